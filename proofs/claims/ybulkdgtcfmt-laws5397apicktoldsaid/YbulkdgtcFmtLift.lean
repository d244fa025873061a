/-
  From the row's condition on the listed table to what the walks ask of memory; the start for the witness; the two laws lifted.
-/
import Derived.Test.YbulkdgtcFmtLaws
import Derived.ProofKit
import Derived.OpenVars
import Derived.LaidMore
import Derived.Deep.DeepWitnessRef
import Derived.Stop.JoinedTold
namespace Go.Proofs.YbulkdgtcFmt
open Go.ChangeShapes Go.WideShapes Go.ChangeAt Go.RowKit
open Go.ChangeMaps (open_string shut_string)
open Go.Extern.Stop Go.Stop Go.Extern

theorem own : ownKnob Ybaf.prog.godebug = none := by kernel_rfl
theorem laidOut : laidOutB Ybaf.prog = true := by kernel_rfl
/-- The one listed variable's name, out of the given row. -/
def vName : String := Rows.lawS5397AModelSpec.vars.headD ""
theorem gPrec : Ybaf.prog.globalNamed vName = some 0 := by kernel_rfl
theorem tPrec : (Ybaf.prog.globals[0]?).map (·.type) = some 33 := by kernel_rfl
theorem cells34 : Ybaf.prog.cellsOf 34 = 2 := by kernel_rfl
theorem cells9 : Ybaf.prog.cellsOf 9 = 1 := by kernel_rfl
theorem cells22 : Ybaf.prog.cellsOf 22 = 1 := by kernel_rfl

/-- The table's entries as data, by place. -/
def entry (j : Nat) : DataW Unit := .agg [.lit (.string (nmL j)), .lit (.int .i64 (unI j))]

theorem laid_at (j : Nat) (h : j < 7) : ∃ ds, (Rows.laid_example_com_crossline_crossline_lineproto_precisions : DataW Unit) = .slice ds [] ∧ ds.length = 7 ∧ ds[j]? = some (entry j) := by
  refine ⟨_, rfl, rfl, ?_⟩
  have hc : j = 0 ∨ j = 1 ∨ j = 2 ∨ j = 3 ∨ j = 4 ∨ j = 5 ∨ j = 6 := by omega
  rcases hc with rfl | rfl | rfl | rfl | rfl | rfl | rfl
  all_goals rfl

theorem cells_two {w : World} {a : Addr} {cs : List Value} (h : w.cells? 0 a 2 = some cs) : ∃ x y, cs = [x, y] ∧ w.cell? a = some x ∧ w.cell? (a.add 1) = some y := by
  unfold World.cells? at h
  rw [if_pos (Nat.zero_le _)] at h
  have e0 : a.add 0 = a := by simp [Addr.add]
  simp only [List.range_succ, List.range_zero, List.nil_append, List.cons_append, List.mapM_cons, List.mapM_nil, e0] at h
  cases hx : w.cell? a with
  | none => simp [hx] at h
  | some x =>
    cases hy : w.cell? (a.add 1) with
    | none => simp [hx, hy] at h
    | some y => simp [hx, hy] at h; exact ⟨x, y, h.symm, rfl, rfl⟩

theorem tab_of_laid {W : World} (h : laidMetH Ybaf.prog Rows.lawS5397AModelRow.laid W) : ∃ b o c, Tab W b o c := by
  have h1 : laidMet Ybaf.prog [(vName, Rows.laid_example_com_crossline_crossline_lineproto_precisions)] W := h
  obtain ⟨ps, ⟨g0, t0, cs0, f0, p0, q0, hg0, ht0, hv0, hd0, _, _⟩, _, _⟩ := h1
  obtain rfl := Option.some.inj (gPrec.symm.trans hg0)
  obtain rfl := Option.some.inj (tPrec.symm.trans ht0)
  rcases DataW.trod_slice Ybaf.underlying33 hd0 with ⟨_, hx⟩ | ⟨a, len, cap, elems, rest, n, _, hcs, hx, _, hl, _, hlen, hel, _⟩
  · cases hx
  have hx1 := (Prod.mk.inj hx).1
  have hlen7 : len = 7 := by
    obtain ⟨ds, e1, e2, _⟩ := laid_at 0 (by omega)
    rw [e1] at hx1
    have := (DataW.slice.inj hx1).1
    rw [← hlen, ← e2, this]; simp
  subst hlen7
  have hent : ∀ j, j < 7 → ∃ y, elems[j]? = some y ∧ y.1 = entry j := by
    intro j hj
    obtain ⟨ds, e1, e2, e3⟩ := laid_at j hj
    rw [e1] at hx1
    have := (DataW.slice.inj hx1).1
    rw [this, List.getElem?_map] at e3
    cases hy : elems[j]? with
    | none => simp [hy] at e3
    | some y => rw [hy] at e3; exact ⟨y, rfl, Option.some.inj e3⟩
  have hread : ∀ j, j < 7 → W.cell? (a.add (j * 2)) = some (.string (nmS j)) ∧ W.cell? ((a.add (j * 2)).add 1) = some (.int .i64 (unI j)) := by
    intro j hj
    obtain ⟨y, hy, he⟩ := hent j hj
    have hE := hel j hj
    rw [hy, cells34] at hE
    simp only [Option.bind_eq_some_iff] at hE
    obtain ⟨cs, hc1, hc2⟩ := hE
    obtain ⟨x1, x2, rfl, k1, k2⟩ := cells_two hc1
    obtain ⟨y0, y1, m, rfl, _, r0, r1⟩ := trod_struct2 Ybaf.underlying34 hc2
    simp only [cells9, cells22] at r0 r1
    obtain ⟨s, e0, rfl, _⟩ := DataW.trod_string Ybaf.underlying9 r0
    obtain ⟨z, e1, rfl, _⟩ := DataW.trod_int Ybaf.underlying22 r1
    simp only [entry, DataW.agg.injEq, List.cons.injEq, DataW.lit.injEq, Lit.string.injEq, Lit.int.injEq, and_true, true_and] at he
    simp at e0 e1
    subst e0 e1
    refine ⟨by rw [k1, nmS, ← he.1, Lib.mk_data], by rw [k2, he.2]⟩
  have hspot : a.spot = none := by
    have := World.cell?_spot (hread 0 (by omega)).1
    simpa [Addr.add] using this
  obtain ⟨b, o, sp⟩ := a
  simp only at hspot
  subst hspot
  have hblt : b < W.heap.size := by
    rcases Nat.lt_or_ge b W.heap.size with h | h
    · exact h
    · have := (hread 0 (by omega)).1
      simp [World.cell?, Addr.add, Array.getElem?_eq_none h] at this
  have hhead : W.cell? ⟨0, 0, none⟩ = some (.slice (some ⟨b, o, none⟩) 7 cap) := by
    have := World.var?_cell hg0 hv0 0
    rw [Array.eq_one_of_toList hcs] at this
    simpa using this
  refine ⟨b, o, cap, hhead, fun j hj => ?_, fun j hj => ?_, ?_, hblt⟩
  · have := (hread j hj).1
    rwa [Go.WideShapes.add_plain] at this
  · have := (hread j hj).2
    rwa [Go.WideShapes.add_plain, Go.WideShapes.add_plain] at this
  · rcases Nat.lt_or_ge 0 W.heap.size with h | h
    · exact h
    · simp [World.cell?, Array.getElem?_eq_none h] at hhead

theorem door_met (os : Os) (args : Array Value) : laidMetH Ybaf.prog Rows.lawS5397AModelRow.laid ((World.doorLaid Ybaf.prog 400 os).forCall (fun _ _ => 0) ⟨#[], args, []⟩).memory :=
  laidMetH_of_parts3 (fuel := 8) (laidMet_of_run' 8 (by kernel_rfl) (by kernel_rfl)) (by kernel_rfl) (by kernel_rfl)

set_option maxRecDepth 100000 in
theorem lawA_lifted (os : Os) (started : os.Started) (H : Type) (enc : TypeId × Value → H) :
    ReturnsInTold none {} Ybaf.checked os 3 .any Input.okWide ((OpenSpec.ofChange Rows.lawS5397AModelSpec).preRow enc Ybaf.prog Ybaf.f3 [] false Rows.lawS5397AModelRow.laid)
      (fun F => ((OpenSpec.ofChange Rows.lawS5397AModelSpec).at F).post enc Ybaf.prog Ybaf.f3 false true false false) (aloneAtReturn Ybaf.prog) nothingAlways := by
  refine returnsInTold_of_row (C := Ybaf.checked) (s := OpenSpec.ofChange Rows.lawS5397AModelSpec) (by kernel_rfl) own started (by kernel_rfl) Ybaf.func3
    (OpenSpec.witness_stopped_atRef (enc := enc) (C := Ybaf.checked) false (World.doorLaid Ybaf.prog 400 os) #[.string ⟨#[]⟩] rfl (by kernel_rfl) (by kernel_rfl) (by kernel_rfl)
      (OpenSpec.preRow_of_B rfl 8 (by kernel_rfl) (by kernel_rfl) (door_met os _))) ?_
  intro F W base args ds gs before _ hF hval0 hW _ _ _ hL _
  have hval : ∀ (j : Nat) t v, Ybaf.f3.params[j]? = some t → args[j]? = some v → Value.okWide Ybaf.prog W .any base t v := hval0
  have hW' := hW
  obtain ⟨p, q, hA0, hV0, rfl, _, _⟩ := hW
  have hA : DataW.TrodAll enc Ybaf.prog W 0 (fun _ => true) true Ybaf.f3.params.toList args.toList ds p := hA0
  have hV : DataW.TrodVars enc Ybaf.prog W (fun _ => true) [vName] gs q := hV0
  rw [Ybaf.params3] at hA hval
  obtain ⟨v0, d0, rfl, rfl, h0⟩ := trodAll_one hA
  obtain ⟨s, rfl, rfl, rfl, ws⟩ := open_string Ybaf.underlying9 (hval 0 9 v0 rfl rfl) h0
  obtain ⟨_, _, _, _, g1, _, rfl, _, _, _, _, _⟩ := trodVars_one hV
  obtain ⟨b, o, c, hT⟩ := tab_of_laid hL
  refine (lawA_walk F.told s b o c W hF hT ws).mono fun e W' ⟨he, hB⟩ => ?_
  subst he
  refine ⟨_, rfl, _, _, _, [], [], q, hW', ?_, ?_, ?_, hB.frame _, fun h => by cases h⟩
  · exact trodAll_mk1 (shut_bool Ybaf.underlying4 _)
  · exact trodAll_mk1 (shut_string Ybaf.underlying9 ws)
  · exact Below.trodVars laidOut hB (by kernel_rfl) hV

set_option maxRecDepth 100000 in
theorem lawP_lifted (os : Os) (started : os.Started) (H : Type) (enc : TypeId × Value → H) :
    ReturnsInTold none {} Ybaf.checked os 4 .any Input.okWide ((OpenSpec.ofChange Rows.lawS5397APickSpec).preRow enc Ybaf.prog Ybaf.f4 [] false Rows.lawS5397APickRow.laid)
      (fun F => ((OpenSpec.ofChange Rows.lawS5397APickSpec).at F).post enc Ybaf.prog Ybaf.f4 false true false false) (aloneAtReturn Ybaf.prog) nothingAlways := by
  refine returnsInTold_of_row (C := Ybaf.checked) (s := OpenSpec.ofChange Rows.lawS5397APickSpec) (by kernel_rfl) own started (by kernel_rfl) Ybaf.func4
    (OpenSpec.witness_stopped_atRef (enc := enc) (C := Ybaf.checked) false (World.doorLaid Ybaf.prog 400 os) #[.int .u8 0] rfl (by kernel_rfl) (by kernel_rfl) (by kernel_rfl)
      (OpenSpec.preRow_of_B rfl 8 (by kernel_rfl) (by kernel_rfl) (door_met os _))) ?_
  intro F W base args ds gs before _ hF hval0 hW _ _ _ hL _
  have hval : ∀ (j : Nat) t v, Ybaf.f4.params[j]? = some t → args[j]? = some v → Value.okWide Ybaf.prog W .any base t v := hval0
  have hW' := hW
  obtain ⟨p, q, hA0, hV0, rfl, _, _⟩ := hW
  have hA : DataW.TrodAll enc Ybaf.prog W 0 (fun _ => true) true Ybaf.f4.params.toList args.toList ds p := hA0
  have hV : DataW.TrodVars enc Ybaf.prog W (fun _ => true) [vName] gs q := hV0
  rw [Ybaf.params4] at hA hval
  obtain ⟨v0, d0, rfl, rfl, h0⟩ := trodAll_one hA
  obtain ⟨k, rfl, rfl, rfl, wk⟩ := open_int Ybaf.underlying5 (hval 0 5 v0 rfl rfl) h0
  have hk : 0 ≤ k ∧ k ≤ 255 := by
    have := wk
    simp [Lit.wf, IntKind.min, IntKind.max, IntKind.signed, IntKind.bits] at this
    omega
  obtain ⟨_, _, _, _, g1, _, rfl, _, _, _, _, _⟩ := trodVars_one hV
  obtain ⟨b, o, c, hT⟩ := tab_of_laid hL
  refine (lawP_walk F.told k b o c W hF hT hk.1 hk.2).mono fun e W' ⟨he, hB⟩ => ?_
  subst he
  refine ⟨_, rfl, _, _, _, [], [], q, hW', ?_, ?_, ?_, hB.frame _, fun h => by cases h⟩
  · exact trodAll_mk1 (shut_bool Ybaf.underlying4 _)
  · exact trodAll_mk1 (shut_int Ybaf.underlying5 wk)
  · exact Below.trodVars laidOut hB (by kernel_rfl) hV
end Go.Proofs.YbulkdgtcFmt
