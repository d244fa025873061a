/-
  LawS5397CGetModel (3) walked: true at every input; what lay below is as it was.
-/
import Derived.Test.YbulkdgtcGet
import Derived.Test.YbulkdgtcPick
import Derived.Test.YbulkdgtcFloat
import Derived.Lib.SliceRun
namespace Go.Proofs.Ybulkdgtc
open Go.RowKit Go.Maps Go.WideMaps
attribute [local go_sem] run_store_float

theorem law_long (a : Option Addr) (len cap : Nat) (sel : Int) (q uri : ByteArray) (w : World) (h : 1024 < len) :
    Calls Yba.prog 3 #[.slice a len cap, .int .u8 sel, .string q, .string uri] w fun e w' => e = .returned (.bool true) ∧ Below w.heap.size w w' := by
  go_enter Yba.func3, Yba.ntmps3
  go_wp2
  go_ret
  exact ⟨rfl, Below.refl _ _⟩

theorem txt_eq {ss : List ByteArray} {i : Nat} {key : ByteArray} (h : txt ss i = key.data.toList) : ss.getD i ByteArray.empty = key := by
  rw [← Lib.mk_data (ss.getD i ByteArray.empty), ← Lib.mk_data key]
  exact congrArg (fun l : List UInt8 => (⟨l.toArray⟩ : ByteArray)) h

set_option maxRecDepth 100000 in
set_option maxHeartbeats 400000 in
theorem law_core (a : Option Addr) (len cap : Nat) (ss : List ByteArray) (sel : Int) (q uri : ByteArray) (w : World) (hlen : len ≤ 1024)
    (hB : Calls Yba.prog 4 #[.slice a len cap, .string uri] w fun e w' => ∃ S M B, e = .returned (.pointer (some ⟨S, 0, none⟩)) ∧ Mid w w' S M B ss uri len)
    (hP : ∀ w1, Below w.heap.size w w1 → Calls Yba.prog 5 #[.slice a len cap, .int .u8 sel, .string q] w1 fun e w' => ∃ key : ByteArray, e = .returned (.tuple #[.string key, .int .i64 (want (lastTo ss key.data.toList len))]) ∧ key.size ≤ 140737488355328 ∧ w' = w1) :
    Calls Yba.prog 3 #[.slice a len cap, .int .u8 sel, .string q, .string uri] w fun e w' => e = .returned (.bool true) ∧ Below w.heap.size w w' := by
  go_enter Yba.func3, Yba.ntmps3
  go_wp2_with fail
  refine hB.mono ?_
  rintro e w1 ⟨S, M, B, rfl, hM⟩
  have hP1 := hP w1 hM.below
  clear hB hP
  go_wp2_with fail
  refine hP1.mono ?_
  rintro e w2 ⟨key, rfl, hkz, rfl⟩
  clear hP1
  have c5 := hM.map
  have hown := hM.own
  cases hl : lastTo ss key.data.toList len with
  | none =>
    have hG := get_miss w S M B len ss uri key w2 hM hkz hl
    clear hl
    have hS : S < w2.heap.size := by have := hM.size; have := hM.ltS; omega
    have hwn : want none = -1 := rfl
    have f0 := float_zero
    have q22 := fun (w : World) => Lib.run_eql_slice_nil (P := Yba.prog) w 22 9 none 0 0 0 0 Yba.underlying22
    go_wp2_with (at_len; refine wpList_len_own _ rfl _ 37 rfl 9 57 Yba.underlying37 _ M len _ rfl hown ?_)
    refine hG.mono ?_
    rintro e w3 ⟨rfl, hGot⟩
    have c5' := hGot.map
    have hown' := hGot.own
    have hS' : S < w3.heap.size := Nat.lt_of_lt_of_le hS hGot.size
    have hbel := hGot.below
    clear hG hGot hown c5 hM hS
    go_wp2_with (at_len; refine wpList_len_own _ rfl _ 37 rfl 9 57 Yba.underlying37 _ M len _ rfl (hown'.alloc _) ?_)
    go_ret
    exact ⟨rfl, hbel.alloc hbel.size _⟩
  | some i =>
    obtain ⟨hil, hit⟩ := lastTo_some hl
    have hG := get_hit w S M B len ss uri key w2 hM hkz i hl
    rw [txt_eq hit] at hG
    clear hl hit
    have hS : S < w2.heap.size := by have := hM.size; have := hM.ltS; omega
    have hwn : want (some i) = (i : Int) := rfl
    have q22 := fun (w : World) => Lib.run_eql_slice_nil (P := Yba.prog) w 22 9 none 0 0 0 0 Yba.underlying22
    have f0 := float_self i (by omega)
    have f1 := float_half
    go_wp2_with (at_len; refine wpList_len_own _ rfl _ 37 rfl 9 57 Yba.underlying37 _ M len _ rfl hown ?_)
    refine hG.mono ?_
    rintro e w3 ⟨rfl, hGot⟩
    have c5' := hGot.map
    have hown' := hGot.own
    have hS' : S < w3.heap.size := Nat.lt_of_lt_of_le hS hGot.size
    have hbel := hGot.below
    clear hG hGot hown c5 hM hS
    go_wp2_with (at_len; refine wpList_len_own _ rfl _ 37 rfl 9 57 Yba.underlying37 _ M len _ rfl (hown'.alloc _) ?_)
    go_ret
    exact ⟨rfl, hbel.alloc hbel.size _⟩

/-- The law at no text, whatever the slice's address. -/
theorem law_none (a : Option Addr) (cap : Nat) (sel : Int) (q uri : ByteArray) (w : World) (hq : q.size ≤ 140737488355328) :
    Calls Yba.prog 3 #[.slice a 0 cap, .int .u8 sel, .string q, .string uri] w fun e w' => e = .returned (.bool true) ∧ Below w.heap.size w w' :=
  law_core a 0 cap [] sel q uri w (by omega) (build_none a cap [] uri w) (fun w1 _ => pick_none a cap sel q w1 [] hq)

/-- The law at at most 1024 texts. -/
theorem law_any (b off len cap : Nat) (ss : List ByteArray) (sel : Int) (q uri : ByteArray) (w : World) (hlen : len ≤ 1024) (hpos : 0 < len) (hz : len ≤ ss.length) (hb : b < w.heap.size)
    (hc : ∀ j, j < ss.length → w.cell? ⟨b, off + j, none⟩ = some (.string (ss.getD j ByteArray.empty))) (hsz : ∀ j, j < len → (ss.getD j ByteArray.empty).size ≤ 140737488355328) (hq : q.size ≤ 140737488355328)
    (h0 : 0 ≤ sel) (h1 : sel ≤ 255) :
    Calls Yba.prog 3 #[.slice (some ⟨b, off, none⟩) len cap, .int .u8 sel, .string q, .string uri] w fun e w' => e = .returned (.bool true) ∧ Below w.heap.size w w' :=
  law_core (some ⟨b, off, none⟩) len cap ss sel q uri w hlen (build_any b off len cap ss uri w hlen hz hb hc hsz)
    (fun w1 hB => pick_any b off len cap ss sel q w1 hlen hpos hz (fun j hj => (hB.cell (by exact hb)).trans (hc j hj)) hsz hq h0 h1)
end Go.Proofs.Ybulkdgtc
