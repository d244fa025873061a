/-
  The precision table as plain functions, and the walks of the two leaf functions: zzs5397amodel (6) and zzs5397aname (7).
-/
import Derived.Test.YbulkdgtcFmtRows
import Derived.WalkKit
import Derived.WalkSpells
import Derived.WalkLawsBesides
import Derived.Outline
namespace Go.Proofs.YbulkdgtcFmt
open Go.RowKit

/-- The names of the table, by place. -/
def nmL (i : Nat) : List UInt8 :=
  match i with
  | 0 => [110, 115] | 1 => [117] | 2 => [117, 115] | 3 => [109, 115] | 4 => [115] | 5 => [109] | _ => [104]
/-- The units of the table, by place. -/
def unI (i : Nat) : Int :=
  match i with
  | 0 => 1 | 1 => 1000 | 2 => 1000 | 3 => 1000000 | 4 => 1000000000 | 5 => 60000000000 | _ => 3600000000000
def nmS (i : Nat) : ByteArray := ⟨(nmL i).toArray⟩

/-- What the table says of a text that is not empty, from place 'k' on, 'n' places left. -/
def lookFrom (l : List UInt8) (k : Nat) : Nat → Option Int
  | 0 => none
  | n + 1 => if l = nmL k then some (unI k) else lookFrom l (k + 1) n
/-- What the table says of a text. -/
def look (l : List UInt8) : Option Int := if l = [] then some 1 else lookFrom l 0 7

set_option maxHeartbeats 400000 in
theorem model_any (s : ByteArray) (w : World) :
    Calls Ybaf.prog 6 #[.string s] w fun e w' => e = .returned (.tuple #[.int .i64 ((look s.toList).getD 0), .bool (look s.toList).isSome]) ∧ w' = w := by
  go_enter Ybaf.func6, Ybaf.ntmps6
  go_wp2
  all_goals go_ret2
  all_goals (refine ⟨?_, rfl⟩; simp_all [look, lookFrom, nmL, unI])

/-- The name that the picker gives, by place (0..6; else the empty one). -/
def pickL (i : Nat) : List UInt8 := if i < 7 then nmL i else []

set_option maxHeartbeats 400000 in
theorem name_any (n : Nat) (h : n < 8) (w : World) :
    Calls Ybaf.prog 7 #[.int .i64 (n : Int)] w fun e w' => e = .returned (.string ⟨(pickL n).toArray⟩) ∧ w' = w := by
  have hc : n = 0 ∨ n = 1 ∨ n = 2 ∨ n = 3 ∨ n = 4 ∨ n = 5 ∨ n = 6 ∨ n = 7 := by omega
  rcases hc with rfl | rfl | rfl | rfl | rfl | rfl | rfl | rfl
  all_goals
    go_enter Ybaf.func7, Ybaf.ntmps7
    go_wp2
    go_ret
    exact ⟨rfl, rfl⟩
end Go.Proofs.YbulkdgtcFmt
