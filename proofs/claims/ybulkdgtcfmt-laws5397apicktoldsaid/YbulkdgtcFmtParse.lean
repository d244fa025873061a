/-
  ParsePrecision (5) walked: the loop over the table, strings.Join, fmt.Errorf.
-/
import Derived.Test.YbulkdgtcFmtErrorf
import Derived.Test.YbulkdgtcFmtShelf
namespace Go.Proofs.YbulkdgtcFmt
open Go.RowKit
open Go.Extern.Stop Go.Stop Go.Extern

/-- The table as it lies in memory. -/
structure Tab (w : World) (b o c : Nat) : Prop where
  head : w.cell? ⟨0, 0, none⟩ = some (.slice (some ⟨b, o, none⟩) 7 c)
  name : ∀ j, j < 7 → w.cell? ⟨b, o + j * 2, none⟩ = some (.string (nmS j))
  unit : ∀ j, j < 7 → w.cell? ⟨b, o + j * 2 + 1, none⟩ = some (.int .i64 (unI j))
  old0 : 0 < w.heap.size
  oldb : b < w.heap.size

theorem made7 (w : World) : (Instr.makeSlice 32 (.int .i64 7) (.int .i64 7)).run Ybaf.prog w = .ok (.slice (some ⟨w.heap.size, 0, none⟩) 7 7)
    (w.alloc (.cells #[.string ⟨#[]⟩, .string ⟨#[]⟩, .string ⟨#[]⟩, .string ⟨#[]⟩, .string ⟨#[]⟩, .string ⟨#[]⟩, .string ⟨#[]⟩] 9)) := by kernel_rfl

/-- The outcome of ParsePrecision at a text. -/
def Out (l : List UInt8) (e : Ending) : Prop :=
  (∃ u, look l = some u ∧ e = .returned (.tuple #[.int .i64 u, .nilIface])) ∨
  (look l = none ∧ ∃ a, e = .returned (.tuple #[.int .i64 0, .iface 48 (.pointer (some a))]))

def names7 : List ByteArray := [nmS 0, nmS 1, nmS 2, nmS 3, nmS 4, nmS 5, nmS 6]
theorem names7_at (j : Nat) (x : ByteArray) (h : names7[j]? = some x) : j < 7 ∧ x = nmS j := by
  match j, h with
  | 0, h => exact ⟨by omega, (Option.some.inj h).symm⟩
  | 1, h => exact ⟨by omega, (Option.some.inj h).symm⟩
  | 2, h => exact ⟨by omega, (Option.some.inj h).symm⟩
  | 3, h => exact ⟨by omega, (Option.some.inj h).symm⟩
  | 4, h => exact ⟨by omega, (Option.some.inj h).symm⟩
  | 5, h => exact ⟨by omega, (Option.some.inj h).symm⟩
  | 6, h => exact ⟨by omega, (Option.some.inj h).symm⟩
  | n + 7, h => simp [names7] at h
theorem names7_len : (Lib.join (names7.map (·.data.toList)) (⟨#[44, 32]⟩ : ByteArray).data.toList).length ≤ 140737488355328 := by decide +kernel

/-- What holds of memory at the loop's head, 'k' rounds done: the new array holds the first 'k' names. -/
structure Rd (w wr : World) (k : Nat) : Prop where
  cell : ∀ j, j < 7 → wr.cell? ⟨w.heap.size, j, none⟩ = some (.string (if j < k then nmS j else ⟨#[]⟩))
  unfrozen : ∀ j, j < 7 → wr.frozen? ⟨w.heap.size, j, none⟩ = false
  below : Below w.heap.size w wr
  size : w.heap.size < wr.heap.size

theorem Rd.start (w : World) : Rd w (w.alloc (.cells #[.string ⟨#[]⟩, .string ⟨#[]⟩, .string ⟨#[]⟩, .string ⟨#[]⟩, .string ⟨#[]⟩, .string ⟨#[]⟩, .string ⟨#[]⟩] 9)) 0 where
  cell := by
    intro j hj
    rw [World.cell?_alloc_new]
    match j, hj with
    | 0, _ => rfl
    | 1, _ => rfl
    | 2, _ => rfl
    | 3, _ => rfl
    | 4, _ => rfl
    | 5, _ => rfl
    | 6, _ => rfl
  unfrozen := by intro j _; rw [World.frozen?_alloc_new]
  below := (Below.refl _ _).alloc (Nat.le_refl _) _
  size := by simp

theorem Rd.step {w wr : World} {k : Nat} (h : Rd w wr k) (hk : k < 7) (X : Obj) : Rd w ((wr.setCell ⟨w.heap.size, k, none⟩ (.string (nmS k))).alloc X) (k + 1) where
  cell := by
    intro j hj
    rw [World.cell?_alloc_past _ _ _ (by simpa using h.size)]
    by_cases e : j = k
    · subst e
      rw [World.cell?_setCell_same _ _ _ (h.cell j hj), if_pos (by omega)]
    · rw [World.cell?_setCell_other _ _ _ _ (by intro q; exact e (by injection q with _ q2; exact q2.symm)), h.cell j hj]
      by_cases l : j < k
      · rw [if_pos l, if_pos (by omega)]
      · rw [if_neg l, if_neg (by omega)]
  unfrozen := by
    intro j hj
    rw [World.frozen?_alloc_past _ _ _ (by simpa using h.size), World.frozen?_setCell]
    exact h.unfrozen j hj
  below := (h.below.setCell (Nat.le_refl _) _).alloc (by simpa using Nat.le_of_lt h.size) _
  size := by have := h.size; simp; omega

theorem nmS_toList (k : Nat) : (nmS k).toList = nmL k := by
  rw [Lib.toList_data]
  simp [nmS]

theorem look_start {s : ByteArray} (h : s.toList.isEmpty = false) : look s.toList = lookFrom s.toList 0 7 := by
  unfold look
  rw [if_neg (by intro e; rw [e] at h; cases h)]

theorem look_hit {l : List UInt8} {k : Nat} (hk : k < 7) (h : ((nmS k).toList == l) = true) : lookFrom l k (7 - k) = some (unI k) := by
  rw [show 7 - k = (6 - k) + 1 from by omega, lookFrom, if_pos (by rw [← eq_of_beq h, nmS_toList])]

theorem look_miss {l : List UInt8} {k : Nat} (hk : k < 7) (h : ((nmS k).toList == l) = false) : lookFrom l k (7 - k) = lookFrom l (k + 1) (7 - (k + 1)) := by
  rw [show 7 - k = (6 - k) + 1 from by omega, lookFrom, if_neg (by intro e; rw [nmS_toList, e] at h; simp at h), show 7 - (k + 1) = 6 - k from by omega]

set_option maxHeartbeats 400000 in
theorem parse_full (F : Interp) (s : ByteArray) (b o c : Nat) (w : World) (hF : F.answers w.tape) (hT : Tab w b o c) (hs : s.toList.isEmpty = false) :
    Calls Ybaf.prog 5 #[.string s] w fun e w' => Out s.toList e ∧ Below w.heap.size w w' := by
  have h0 := hT.head
  have hmk := made7
  have hp0 := hT.old0
  have HS : Hid (look s.toList = lookFrom s.toList 0 7) := look_start hs
  go_enter Ybaf.func5, Ybaf.ntmps5
  go_wp2
  go_loopw [14] (fun i wr => ∃ k : Nat, k ≤ 7 ∧ i = .int .i64 k ∧ Hid (lookFrom s.toList 0 7 = lookFrom s.toList k (7 - k)) ∧ Rd w wr k)
    (fun i _ => 7 - (intOf i).toNat)
  case atStart => exact ⟨0, by omega, rfl, rfl, Rd.start w⟩
  case round =>
    obtain ⟨k, hk, rfl, HL, hR⟩ := hrel
    have hb := hT.oldb
    have hlt := hR.size
    by_cases h7 : k < 7
    · have hn : wr.cell? ⟨b, o + k * 2, none⟩ = some (.string (nmS k)) := (hR.below.cell (by exact hb)).trans (hT.name k h7)
      have hu : wr.cell? ⟨b, o + k * 2 + 1, none⟩ = some (.int .i64 (unI k)) := (hR.below.cell (by exact hb)).trans (hT.unit k h7)
      have hck := hR.cell k h7
      have hfk := hR.unfrozen k h7
      rw [if_neg (Nat.lt_irrefl k)] at hck
      go_wp2
      · go_ret2
        have hq : ((nmS k).toList == s.toList) = true := by assumption
        exact ⟨Or.inl ⟨unI k, by rw [HS.out, HL.out, look_hit h7 hq], rfl⟩, hR.below.alloc (Nat.le_of_lt hlt) _⟩
      · have hq : ((nmS k).toList == s.toList) = false := by assumption
        go_roundw
        case rel => exact ⟨k + 1, by omega, by go_num, HL.out.trans (look_miss h7 hq), hR.step h7 _⟩
        case measure => simp [intOf]; omega
    · have hk7 : k = 7 := by omega
      subst hk7
      have hJ := Ybaf.strings_Join w.heap.size 0 7 names7 ⟨#[44, 32]⟩ wr (fun j x hj => by
        obtain ⟨h1, h2⟩ := names7_at j x hj
        rw [Nat.zero_add, h2, hR.cell j h1, if_pos h1]) hlt (by decide) (by decide) names7_len
      go_wp2_with fail
      refine hJ.mono ?_
      rintro e w1 ⟨rfl, hb1⟩
      clear hJ
      have hsz1 := hb1.size
      generalize hy : (⟨(Lib.join (names7.map (·.data.toList)) (⟨#[44, 32]⟩ : ByteArray).data.toList).toArray⟩ : ByteArray) = y
      clear hy
      go_wp2_with fail
      have hF1 : F.answers (w1.alloc (Obj.cells #[Value.iface 9 (Value.string s), Value.iface 9 (Value.string y)] 20)).tape := by
        rw [show (w1.alloc (Obj.cells #[Value.iface 9 (Value.string s), Value.iface 9 (Value.string y)] 20)).tape = w.tape from hb1.tape.trans hR.below.tape]
        exact hF
      have hE := errorf_two F s y w1.heap.size (w1.alloc (Obj.cells #[Value.iface 9 (Value.string s), Value.iface 9 (Value.string y)] 20)) hF1 (by simp) (by simp)
      refine hE.mono ?_
      rintro e w2 ⟨⟨a, rfl⟩, hb2⟩
      clear hE hF1
      go_wp2
      go_ret2
      have hn : look s.toList = none := by rw [HS.out, HL.out]; rfl
      refine ⟨Or.inr ⟨hn, a, rfl⟩, ?_⟩
      exact (hR.below.trans (hb1.mono (Nat.le_of_lt hlt))).trans (((Below.refl _ _).alloc (by omega) _).trans (hb2.mono (by simp; omega)))

/-- ParsePrecision at the empty text. -/
theorem parse_empty (s : ByteArray) (w : World) (hs : s.toList.isEmpty = true) :
    Calls Ybaf.prog 5 #[.string s] w fun e w' => Out s.toList e ∧ Below w.heap.size w w' := by
  have HS : Hid (look s.toList = some 1) := by unfold look; rw [if_pos (by simpa using hs)]; rfl
  go_enter Ybaf.func5, Ybaf.ntmps5
  go_wp2
  go_ret2
  exact ⟨Or.inl ⟨1, HS.out, rfl⟩, Below.refl _ _⟩

/-- ParsePrecision at every text. -/
theorem parse_any (F : Interp) (s : ByteArray) (b o c : Nat) (w : World) (hF : F.answers w.tape) (hT : Tab w b o c) :
    Calls Ybaf.prog 5 #[.string s] w fun e w' => Out s.toList e ∧ Below w.heap.size w w' := by
  cases hs : s.toList.isEmpty with
  | true => exact parse_empty s w hs
  | false => exact parse_full F s b o c w hF hT hs
end Go.Proofs.YbulkdgtcFmt
