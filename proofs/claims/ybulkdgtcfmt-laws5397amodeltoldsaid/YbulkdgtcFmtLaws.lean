/-
  The two laws walked: LawS5397AModel (3), LawS5397APick (4): each returns true; what lay below is as it was.
-/
import Derived.Test.YbulkdgtcFmtParse
namespace Go.Proofs.YbulkdgtcFmt
open Go.RowKit
open Go.Extern.Stop Go.Stop Go.Extern

set_option maxHeartbeats 400000 in
theorem lawA_walk (F : Interp) (s : ByteArray) (b o c : Nat) (w : World) (hF : F.answers w.tape) (hT : Tab w b o c) (hs : s.size ≤ maxLen) :
    Calls Ybaf.prog 3 #[.string s] w fun e w' => e = .returned (.bool true) ∧ Below w.heap.size w w' := by
  unfold maxLen at hs
  by_cases hl : 1024 < s.size
  · go_enter Ybaf.func3, Ybaf.ntmps3
    go_wp2
    go_ret
    exact ⟨rfl, Below.refl _ _⟩
  · have hP := parse_any F s b o c w hF hT
    go_enter Ybaf.func3, Ybaf.ntmps3
    go_wp2_with fail
    refine hP.mono ?_
    rintro e w1 ⟨hO, hb⟩
    clear hP
    rcases hO with ⟨u, hu, rfl⟩ | ⟨hn, a, rfl⟩
    · have hM := model_any s w1
      rw [hu] at hM
      simp only [Option.getD_some, Option.isSome_some] at hM
      clear hu
      go_wp2_with fail
      refine hM.mono ?_
      rintro e w2 ⟨rfl, rfl⟩
      clear hM
      go_wp2
      go_ret
      exact ⟨rfl, hb⟩
    · have hM := model_any s w1
      rw [hn] at hM
      simp only [Option.getD_none, Option.isSome_none] at hM
      clear hn
      go_wp2_with fail
      refine hM.mono ?_
      rintro e w2 ⟨rfl, rfl⟩
      clear hM
      go_wp2
      go_ret
      exact ⟨rfl, hb⟩

theorem pick_known (n : Nat) (h : n < 8) : ∃ u, look (⟨(pickL n).toArray⟩ : ByteArray).toList = some u := by
  rw [Lib.toList_data]
  have hc : n = 0 ∨ n = 1 ∨ n = 2 ∨ n = 3 ∨ n = 4 ∨ n = 5 ∨ n = 6 ∨ n = 7 := by omega
  rcases hc with rfl | rfl | rfl | rfl | rfl | rfl | rfl | rfl
  all_goals exact ⟨_, rfl⟩

theorem pick_x (n : Nat) (h : n < 8) : look ((⟨(pickL n).toArray⟩ : ByteArray) ++ (⟨#[120]⟩ : ByteArray)).toList = none := by
  rw [Lib.toList_data, ByteArray.data_append]
  have hc : n = 0 ∨ n = 1 ∨ n = 2 ∨ n = 3 ∨ n = 4 ∨ n = 5 ∨ n = 6 ∨ n = 7 := by omega
  rcases hc with rfl | rfl | rfl | rfl | rfl | rfl | rfl | rfl
  all_goals decide

theorem pick_size (n : Nat) (h : n < 8) : (⟨(pickL n).toArray⟩ : ByteArray).size ≤ 2 := by
  have hc : n = 0 ∨ n = 1 ∨ n = 2 ∨ n = 3 ∨ n = 4 ∨ n = 5 ∨ n = 6 ∨ n = 7 := by omega
  rcases hc with rfl | rfl | rfl | rfl | rfl | rfl | rfl | rfl
  all_goals decide

theorem name_int (m : Int) (h0 : 0 ≤ m) (h1 : m < 8) (w : World) :
    Calls Ybaf.prog 7 #[.int .i64 m] w fun e w' => e = .returned (.string ⟨(pickL m.toNat).toArray⟩) ∧ w' = w := by
  obtain ⟨n, rfl⟩ := Int.eq_ofNat_of_zero_le h0
  rw [Int.toNat_natCast]
  exact name_any n (by omega) w

theorem Tab.later {w w' : World} {b o c : Nat} (h : Tab w b o c) (hb : Below w.heap.size w w') : Tab w' b o c where
  head := (hb.cell h.old0).trans h.head
  name := fun j hj => (hb.cell (by exact h.oldb)).trans (h.name j hj)
  unit := fun j hj => (hb.cell (by exact h.oldb)).trans (h.unit j hj)
  old0 := Nat.lt_of_lt_of_le h.old0 hb.size
  oldb := Nat.lt_of_lt_of_le h.oldb hb.size

set_option maxHeartbeats 400000 in
theorem lawP_walk (F : Interp) (k : Int) (b o c : Nat) (w : World) (hF : F.answers w.tape) (hT : Tab w b o c) (h0 : 0 ≤ k) (h1 : k ≤ 255) :
    Calls Ybaf.prog 4 #[.int .u8 k] w fun e w' => e = .returned (.bool true) ∧ Below w.heap.size w w' := by
  have hN := name_int (k % 8) (by omega) (by omega) w
  have K1 : Hid (∃ u, look (⟨(pickL (k % 8).toNat).toArray⟩ : ByteArray).toList = some u) := pick_known _ (by omega)
  have K2 : Hid (look ((⟨(pickL (k % 8).toNat).toArray⟩ : ByteArray) ++ (⟨#[120]⟩ : ByteArray)).toList = none) := pick_x _ (by omega)
  have hsz := pick_size (k % 8).toNat (by omega)
  generalize (⟨(pickL (k % 8).toNat).toArray⟩ : ByteArray) = s at hN K1 K2 hsz
  go_enter Ybaf.func4, Ybaf.ntmps4
  go_wp2_with fail
  refine hN.mono ?_
  rintro e w1 ⟨rfl, rfl⟩
  clear hN
  have hM := model_any s w1
  have hP := parse_any F s b o c w1 hF hT
  obtain ⟨u, hu⟩ := K1.out
  rw [hu] at hM
  simp only [Option.getD_some, Option.isSome_some] at hM
  have HU : Hid (look s.toList = some u) := hu
  clear hu
  go_wp2_with fail
  refine hM.mono ?_
  rintro e w2 ⟨rfl, rfl⟩
  clear hM
  go_wp2_with fail
  refine hP.mono ?_
  rintro e w3 ⟨hO, hb⟩
  clear hP
  rcases hO with ⟨u', hu', rfl⟩ | ⟨hn, a, rfl⟩
  · obtain rfl : u = u' := Option.some.inj (HU.out.symm.trans hu')
    clear hu'
    have hX := parse_any F (s ++ ⟨#[120]⟩) b o c w3 (by rw [hb.tape]; exact hF) (hT.later hb)
    go_wp2_with fail
    refine hX.mono ?_
    rintro e w4 ⟨hO, hb'⟩
    clear hX
    have hB := hb.trans (hb'.mono hb.size)
    rcases hO with ⟨u', hu', rfl⟩ | ⟨hn, a, rfl⟩
    · exact absurd (K2.out.symm.trans hu') (by simp)
    · clear hn hb hb' K1 K2 HU
      go_wp2
      go_ret
      exact ⟨rfl, hB⟩
  · exact absurd (HU.out.symm.trans hn) (by simp)
end Go.Proofs.YbulkdgtcFmt
