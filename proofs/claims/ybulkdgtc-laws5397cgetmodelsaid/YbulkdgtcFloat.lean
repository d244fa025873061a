/-
  Whole numbers below 1024 as float64: each is equal to itself (none is a NaN). Reckoned by the kernel.
-/
import Derived.Test.YbulkdgtcRows
import Derived.WalkLawsBesides
namespace Go.Proofs.Ybulkdgtc

theorem float_all : (List.range 1024).all (fun i => FloatKind.f64.format.order (floatOfInt .f64 (i : Int)) (floatOfInt .f64 (i : Int)) == some Ordering.eq) = true := by decide +kernel

theorem float_self (i : Nat) (h : i < 1024) : FloatKind.f64.format.order (floatOfInt .f64 (i : Int)) (floatOfInt .f64 (i : Int)) = some Ordering.eq := by
  have := List.all_eq_true.1 float_all i (List.mem_range.2 h)
  exact eq_of_beq this

theorem float_zero : FloatKind.f64.format.order 0 0 = some Ordering.eq := by decide +kernel
theorem float_half : FloatKind.f64.format.order 4602678819172646912 4602678819172646912 = some Ordering.eq := by decide +kernel
end Go.Proofs.Ybulkdgtc
