/-
  zzs5397cpick (5) walked: some key, and the last place at which the texts have it.
-/
import Derived.Test.YbulkdgtcPlain
import Derived.Lib.Strings
namespace Go.Proofs.Ybulkdgtc
open Go.RowKit Go.Maps Go.WideMaps

/-- What pick says of the place: the last one, or -1. -/
def want (o : Option Nat) : Int := match o with | some i => (i : Int) | none => -1

theorem want_hit {ss : List ByteArray} {k : Nat} {s key : ByteArray} (hs : s = ss.getD k ByteArray.empty) (h : (s.toList == key.toList) = true) : want (lastTo ss key.data.toList (k + 1)) = (k : Int) := by
  have e : txt ss k = key.data.toList := by
    unfold txt
    rw [← hs, ← Lib.toList_data, ← Lib.toList_data]
    exact eq_of_beq h
  unfold lastTo
  rw [if_pos e]
  rfl

theorem want_miss {ss : List ByteArray} {k : Nat} {s key : ByteArray} (hs : s = ss.getD k ByteArray.empty) (h : (s.toList == key.toList) = false) : want (lastTo ss key.data.toList (k + 1)) = want (lastTo ss key.data.toList k) := by
  have e : ¬ txt ss k = key.data.toList := by
    unfold txt
    rw [← hs, ← Lib.toList_data, ← Lib.toList_data]
    intro e
    rw [e] at h
    simp at h
  rw [lastTo, if_neg e]

theorem pick_none (a : Option Addr) (cap : Nat) (sel : Int) (q : ByteArray) (w : World) (ss : List ByteArray) (hq : q.size ≤ 140737488355328) :
    Calls Yba.prog 5 #[.slice a 0 cap, .int .u8 sel, .string q] w fun e w' => ∃ key : ByteArray, e = .returned (.tuple #[.string key, .int .i64 (want (lastTo ss key.data.toList 0))]) ∧ key.size ≤ 140737488355328 ∧ w' = w := by
  go_enter Yba.func5, Yba.ntmps5
  go_wp2
  refine wp_loop_rounds 1 ?_
  rw [rounds_succ]
  go_wp2
  go_ret2
  exact ⟨q, rfl, hq, rfl⟩

set_option maxHeartbeats 400000 in
theorem pick_any (b off len cap : Nat) (ss : List ByteArray) (sel : Int) (q : ByteArray) (w : World) (hlen : len ≤ 1024) (hpos : 0 < len) (hz : len ≤ ss.length)
    (hc : ∀ j, j < ss.length → w.cell? ⟨b, off + j, none⟩ = some (.string (ss.getD j ByteArray.empty))) (hsz : ∀ j, j < len → (ss.getD j ByteArray.empty).size ≤ 140737488355328) (hq : q.size ≤ 140737488355328)
    (h0 : 0 ≤ sel) (h1 : sel ≤ 255) :
    Calls Yba.prog 5 #[.slice (some ⟨b, off, none⟩) len cap, .int .u8 sel, .string q] w fun e w' => ∃ key : ByteArray, e = .returned (.tuple #[.string key, .int .i64 (want (lastTo ss key.data.toList len))]) ∧ key.size ≤ 140737488355328 ∧ w' = w := by
  have hi0 : 0 ≤ sel / 2 % (len : Int) := Int.emod_nonneg _ (by omega)
  have hi1 : sel / 2 % (len : Int) < (len : Int) := Int.emod_lt_of_pos _ (by omega)
  obtain ⟨key0, hk0, hks⟩ : ∃ key0 : ByteArray, w.cell? ⟨b, off + (sel / 2 % (len : Int)).toNat, none⟩ = some (.string key0) ∧ key0.size ≤ 140737488355328 :=
    ⟨_, hc _ (by omega), hsz _ (by omega)⟩
  clear hsz
  by_cases hs : (sel % 2 == 0) = true
  · go_enter Yba.func5, Yba.ntmps5
    go_wp2
    clear hk0 hi0 hi1 hs h0 h1
    go_loop [9, 10] (fun wv i => ∃ k : Nat, k ≤ len ∧ i = .int .i64 k ∧ wv = .int .i64 (want (lastTo ss key0.data.toList k))) (fun _ i => len - (intOf i).toNat)
    case atStart => exact ⟨0, by omega, rfl, rfl⟩
    case round =>
      obtain ⟨k, hk, rfl, rfl⟩ := hrel
      by_cases hlt : k < len
      · have hx := hc k (by omega)
        obtain ⟨s, hsd⟩ : ∃ s, s = ss.getD k ByteArray.empty := ⟨_, rfl⟩
        rw [← hsd] at hx
        have HS : Hid (s = ss.getD k ByteArray.empty) := hsd
        clear hsd
        go_wp2
        · have hq : (s.toList == key0.toList) = true := by assumption
          go_round
          case rel => exact ⟨k + 1, by omega, by go_num, by rw [want_hit HS.out hq]⟩
          case measure => simp [intOf]; omega
        · have hq : (s.toList == key0.toList) = false := by assumption
          go_round
          case rel => exact ⟨k + 1, by omega, by go_num, by rw [want_miss HS.out hq]⟩
          case measure => simp [intOf]; omega
      · have hkl : k = len := by omega
        subst hkl
        go_wp2
        go_ret2
        exact ⟨key0, rfl, hks, rfl⟩
  · have hs' : (sel % 2 == 0) = false := by simpa using hs
    clear hs hk0 hks
    go_enter Yba.func5, Yba.ntmps5
    go_wp2
    clear hi0 hi1 hs' h0 h1
    go_loop [9, 10] (fun wv i => ∃ k : Nat, k ≤ len ∧ i = .int .i64 k ∧ wv = .int .i64 (want (lastTo ss q.data.toList k))) (fun _ i => len - (intOf i).toNat)
    case atStart => exact ⟨0, by omega, rfl, rfl⟩
    case round =>
      obtain ⟨k, hk, rfl, rfl⟩ := hrel
      by_cases hlt : k < len
      · have hx := hc k (by omega)
        obtain ⟨s, hsd⟩ : ∃ s, s = ss.getD k ByteArray.empty := ⟨_, rfl⟩
        rw [← hsd] at hx
        have HS : Hid (s = ss.getD k ByteArray.empty) := hsd
        clear hsd
        go_wp2
        · have hq : (s.toList == q.toList) = true := by assumption
          go_round
          case rel => exact ⟨k + 1, by omega, by go_num, by rw [want_hit HS.out hq]⟩
          case measure => simp [intOf]; omega
        · have hq : (s.toList == q.toList) = false := by assumption
          go_round
          case rel => exact ⟨k + 1, by omega, by go_num, by rw [want_miss HS.out hq]⟩
          case measure => simp [intOf]; omega
      · have hkl : k = len := by omega
        subst hkl
        go_wp2
        go_ret2
        exact ⟨q, rfl, hq, rfl⟩
end Go.Proofs.Ybulkdgtc
