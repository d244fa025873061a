/-
  strings.Join's contract of the kit's shelf, laid at this program (written by the kit's lay-shelf and lay-plain; only the part on Join is kept).
-/
import Derived.Shelf.Strings.OnBuilder
import Derived.Test.YbulkdgtcFmtProg
namespace Go.Proofs
open Go.Shelf
def Ybaf.lays156_ren : Go.Shelf.Ren := ⟨fun | 156 => 9 | 165 => 12 | 166 => 13 | 169 => 14 | 240 => 15 | 241 => 16 | 276 => 17 | 277 => 18 | n => n, fun | 31 => 32 | 9 => 9 | 3 => 3 | 4 => 4 | 0 => 0 | 20 => 20 | 72 => 43 | 76 => 45 | 70 => 40 | 37 => 41 | 75 => 24 | 127 => 51 | 164 => 52 | 5 => 5 | 80 => 47 | n => n, fun | n => n⟩
theorem Ybaf.lays156 : Go.Proofs.Lays.n156 Ybaf.prog Ybaf.lays156_ren := {
  mixed := by kernel_rfl
  f156 := Ybaf.func9.trans (congrArg some (by kernel_rfl))
  f165 := Ybaf.func12.trans (congrArg some (by kernel_rfl))
  f166 := Ybaf.func13.trans (congrArg some (by kernel_rfl))
  f169 := Ybaf.func14.trans (congrArg some (by kernel_rfl))
  f240 := Ybaf.func15.trans (congrArg some (by kernel_rfl))
  f241 := Ybaf.func16.trans (congrArg some (by kernel_rfl))
  f276 := Ybaf.func17.trans (congrArg some (by kernel_rfl))
  f277 := Ybaf.func18.trans (congrArg some (by kernel_rfl))
  t0 := Ybaf.underlying0
  a0 := Ybaf.isAgg0
  z0 := Ybaf.sizeOf0
  v0 := Ybaf.zeroValue0
  t3 := Ybaf.underlying3
  a3 := Ybaf.isAgg3
  z3 := Ybaf.sizeOf3
  v3 := Ybaf.zeroValue3
  t4 := Ybaf.underlying4
  a4 := Ybaf.isAgg4
  z4 := Ybaf.sizeOf4
  v4 := Ybaf.zeroValue4
  t9 := Ybaf.underlying9
  a9 := Ybaf.isAgg9
  z9 := Ybaf.sizeOf9
  v9 := Ybaf.zeroValue9
  t20 := Ybaf.underlying20
  a20 := Ybaf.isAgg20
  z20 := Ybaf.sizeOf20
  v20 := Ybaf.zeroValue20
  t31 := Ybaf.underlying32
  a31 := Ybaf.isAgg32
  z31 := Ybaf.sizeOf32
  v31 := Ybaf.zeroValue32
  t37 := Ybaf.underlying41
  a37 := Ybaf.isAgg41
  z37 := Ybaf.sizeOf41
  v37 := Ybaf.zeroValue41
  t70 := Ybaf.underlying40
  a70 := Ybaf.isAgg40
  z70 := Ybaf.sizeOf40
  v70 := Ybaf.zeroValue40
  t72 := Ybaf.underlying43
  a72 := Ybaf.isAgg43
  z72 := Ybaf.sizeOf43
  v72 := Ybaf.zeroValue43
  t75 := Ybaf.underlying24
  a75 := Ybaf.isAgg24
  z75 := Ybaf.sizeOf24
  v75 := Ybaf.zeroValue24
  t76 := Ybaf.underlying45
  a76 := Ybaf.isAgg45
  z76 := Ybaf.sizeOf45
  v76 := Ybaf.zeroValue45
  t127 := Ybaf.underlying51
  a127 := Ybaf.isAgg51
  z127 := Ybaf.sizeOf51
  v127 := Ybaf.zeroValue51
  t164 := Ybaf.underlying52
  a164 := Ybaf.isAgg52
  z164 := Ybaf.sizeOf52
  v164 := Ybaf.zeroValue52 }
theorem Ybaf.Builder_Extra_156 : Builder.Extra Ybaf.prog Ybaf.lays156_ren := {
  sizeBuilder := by kernel_rfl
  liesBuilder := by kernel_rfl
  t5 := Ybaf.underlying5
  a5 := Ybaf.isAgg5
  z5 := Ybaf.sizeOf5
  v5 := Ybaf.zeroValue5
  infoByte := by kernel_rfl
  cellsByte := by kernel_rfl
  sizeByte := by kernel_rfl
  neB5 := by decide }
open Go.RowKit in
/-- No element: the empty string; the world is as it was. (Whatever the slice's address and capacity: a nil slice too.) (LAID: no walk: one application.) -/
theorem Ybaf.strings_Join_none (a : Option Addr) (c : Nat) (sep : ByteArray) (w : World) :
    Calls Ybaf.prog 9 #[.slice a 0 c, .string sep] w fun e w' => e = .returned (.string ⟨#[]⟩) ∧ w' = w := Any.strings_Join_none Ybaf.lays156 Ybaf.Builder_Extra_156 a c sep w
open Go.RowKit in
/-- strings.Join: "Join concatenates the elements of its first argument to create a single string. The separator string sep is placed between elements in the resulting string.": HOWEVER MANY ELEMENTS. Below the heap's end the world is as it was. (LAID: no walk: one application.) -/
theorem Ybaf.strings_Join (bk o c : Nat) (xs : List ByteArray) (sep : ByteArray) (w : World) (hcells : ∀ (j : Nat) x, xs[j]? = some x → w.cell? ⟨bk, o + j, none⟩ = some (.string x)) (hbk : bk < w.heap.size) (hN : xs.length ≤ 140737488355328) (hcap : xs.length ≤ c) (hlen : (Lib.join (xs.map (·.data.toList)) sep.data.toList).length ≤ 140737488355328) :
    Calls Ybaf.prog 9 #[.slice (some ⟨bk, o, none⟩) xs.length c, .string sep] w fun e w' => e = .returned (.string ⟨(Lib.join (xs.map (·.data.toList)) sep.data.toList).toArray⟩) ∧ Below w.heap.size w w' := Any.strings_Join Ybaf.lays156 Ybaf.Builder_Extra_156 bk o c xs sep w hcells hbk hN hcap hlen
end Go.Proofs
