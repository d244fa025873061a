/-
  Plain functions of the third law: the last place of a key, the map's ghost datum after k rounds, how a pointer in the map reads.
-/
import Derived.Test.YbulkdgtcRows
import Derived.Test.YbulkdgtcLocks
import Derived.Maps.OwnSet
import Derived.WalkKit
import Derived.WalkSpells
import Derived.WalkLawsBesides
namespace Go.Proofs.Ybulkdgtc
open Go.RowKit Go.Maps

theorem law : Keyed Yba.prog 9 := string_keyed Yba.underlying9

/-- The k-th text, as bytes. -/
def txt (ss : List ByteArray) (k : Nat) : List UInt8 := (ss.getD k ByteArray.empty).data.toList

/-- The last place below k at which the text is x. -/
def lastTo (ss : List ByteArray) (x : List UInt8) : Nat → Option Nat
  | 0 => none
  | k + 1 => if txt ss k = x then some k else lastTo ss x k

theorem lastTo_some {ss : List ByteArray} {x : List UInt8} : ∀ {k i : Nat}, lastTo ss x k = some i → i < k ∧ txt ss i = x
  | 0, _, h => by simp [lastTo] at h
  | k + 1, i, h => by
    unfold lastTo at h
    by_cases e : txt ss k = x
    · rw [if_pos e] at h
      obtain rfl := Option.some.inj h
      exact ⟨by omega, e⟩
    · rw [if_neg e] at h
      obtain ⟨h1, h2⟩ := lastTo_some h
      exact ⟨by omega, h2⟩

/-- How a pointer to the head of a block reads, as a ghost: the block's number. -/
def ptrElem : Value → Option (DataW Unit × List MemPlace)
  | .pointer none => some (.nil, [])
  | .pointer (some a) => if a.off = 0 ∧ a.spot = none then some (.lit (.int .i64 (a.block : Int)), []) else none
  | _ => none

theorem ptrElem_nil : ptrElem (.pointer none) = some (.nil, []) := rfl
theorem ptrElem_mk (b : Nat) : ptrElem (.pointer (some ⟨b, 0, none⟩)) = some (.lit (.int .i64 (b : Int)), []) := by simp [ptrElem]
theorem ptrElem_inv {v : Value} {b : Nat} {ps : List MemPlace} (h : ptrElem v = some (.lit (.int .i64 (b : Int)), ps)) : v = .pointer (some ⟨b, 0, none⟩) := by
  unfold ptrElem at h
  split at h
  · simp at h
  · rename_i a
    obtain ⟨c, o, sp⟩ := a
    split at h
    · rename_i hc
      obtain ⟨rfl, rfl⟩ := hc
      simp only [Option.some.injEq, Prod.mk.injEq, DataW.lit.injEq, Lit.int.injEq, true_and] at h
      obtain ⟨h1, _⟩ := h
      obtain rfl : c = b := by omega
      rfl
    · cases h
  · cases h
theorem ptrElem_inv_nil {v : Value} {ps : List MemPlace} (h : ptrElem v = some (.nil, ps)) : v = .pointer none := by
  unfold ptrElem at h
  split at h
  · rfl
  · split at h
    · simp at h
    · cases h
  · cases h

/-- The map's ghost datum after k rounds: at each key the block of its last state. -/
def dat (ss : List ByteArray) (B : Nat) : Nat → DataW Unit
  | 0 => .map []
  | k + 1 => (dat ss B k).put (.string (txt ss k)) (.lit (.int .i64 ((B + k : Nat) : Int)))

theorem dat_isMap (ss : List ByteArray) (B : Nat) : ∀ k, IsMap (dat ss B k)
  | 0 => isMap_empty
  | k + 1 => (dat_isMap ss B k).put _ _

theorem dat_has (ss : List ByteArray) (B : Nat) (x : List UInt8) : ∀ k, Maps.has (dat ss B k) (.string x) = (lastTo ss x k).isSome
  | 0 => rfl
  | k + 1 => by
    unfold dat lastTo
    by_cases e : txt ss k = x
    · rw [if_pos e, e, has_put_same (k := .string x) (dat_isMap ss B k) trivial]; rfl
    · rw [if_neg e, has_put_other (by simpa using fun h => e h.symm)]
      exact dat_has ss B x k

theorem dat_at (ss : List ByteArray) (B : Nat) (x : List UInt8) : ∀ k, (dat ss B k).atKey (.string x) .nil = match lastTo ss x k with | some i => .lit (.int .i64 ((B + i : Nat) : Int)) | none => .nil
  | 0 => rfl
  | k + 1 => by
    unfold dat lastTo
    by_cases e : txt ss k = x
    · rw [if_pos e, e, atKey_put_same (k := .string x) (dat_isMap ss B k) trivial]
    · rw [if_neg e, atKey_put_other (by simpa using fun h => e h.symm)]
      exact dat_at ss B x k
end Go.Proofs.Ybulkdgtc
