/-
  THE ROW OF LawS5397CGetModel, PROVED.
-/
import Derived.Test.YbulkdgtcLaw
import Derived.ProofKit
import Derived.SizedLaws
import Derived.SliceStrings
namespace Go.Proofs.Ybulkdgtc
open Go.ChangeShapes Go.WideShapes Go.ChangeAt Go.RowKit
open Go.ChangeMaps (open_string shut_string)

theorem own : ownKnob Yba.prog.godebug = none := by kernel_rfl
theorem laidOut : laidOutB Yba.prog = true := by kernel_rfl
theorem cells9 : Yba.prog.cellsOf 9 = 1 := by kernel_rfl

/-- A text in a slice of texts: its length is among the slice's weights. -/
theorem weight_in {H : Type} (e : TypeId) (bs : List UInt8) : ∀ (l : List (DataW H)), (.lit (.string bs) : DataW H) ∈ l → bs.length ∈ DataW.weightsAll Yba.prog e l
  | d :: r, h => by
    simp only [DataW.weightsAll, List.mem_append]
    rcases List.mem_cons.1 h with rfl | h
    · exact Or.inl (by simp [DataW.weights])
    · exact Or.inr (weight_in e bs r h)

theorem sized_in {H : Type} {ts : List TypeId} {ds : List (DataW H)} (h : (DataW.weightsEach Yba.prog ts ds).all (· ≤ reachBytes) = true) {j : Nat} {elems spare : List (DataW H)} (ht : ts[j]? = some 22) (hd : ds[j]? = some (.slice elems spare))
    {bs : List UInt8} (hb : (.lit (.string bs) : DataW H) ∈ elems) : bs.length ≤ reachBytes := by
  have := List.all_eq_true.1 h _ (DataW.weights_mem_each ht hd bs.length (by simp [DataW.weights, Yba.underlying22, weight_in 9 bs elems hb]))
  simpa using this

set_option maxRecDepth 100000 in
theorem lifted (os : Os) (started : os.Started) (H : Type) (enc : TypeId × Value → H) :
    ReturnsInHanded {} Yba.checked os 3 .any (Rows.lawS5397CGetModelSpec.pre6 enc Yba.prog Yba.f3 Rows.lawS5397CGetModelRow.domain false) (Rows.lawS5397CGetModelSpec.post enc Yba.prog Yba.f3 false true false false) := by
  refine returnsInHanded_of_change_sized (C := Yba.checked) own started (by kernel_rfl) Yba.func3
    (ChangeSpec.witness6 (enc := enc) (C := Yba.checked) false ⟨#[], #[.slice none 0 0, .int .u8 0, .string ⟨#[]⟩, .string ⟨#[]⟩], []⟩ 8 (by kernel_rfl) (by kernel_rfl) (by kernel_rfl) (by kernel_rfl)) ?_
  intro W base args ds gs before hval0 hW _ hsz0 _
  have hsz : (DataW.weightsEach Yba.prog (Yba.f3.params.toList ++ Rows.lawS5397CGetModelSpec.plain.varTypes Yba.prog) (ds ++ gs)).all (· ≤ reachBytes) = true := hsz0
  clear hsz0
  have hval : ∀ (j : Nat) t v, Yba.f3.params[j]? = some t → args[j]? = some v → Value.okWide Yba.prog W .any base t v := hval0
  have hW' := hW
  obtain ⟨p, q, hA0, hV, rfl, _, _⟩ := hW
  have hA : DataW.TrodAll enc Yba.prog W 0 (fun _ => true) true Yba.f3.params.toList args.toList ds p := hA0
  rw [Yba.params3] at hA hval hsz
  obtain ⟨v0, v1, v2, v3, d0, d1, d2, d3, p0, p1, p2, p3, rfl, rfl, rfl, h0, h1, h2, h3⟩ := trodAll_four hA
  obtain ⟨rfl, rfl⟩ := trodVars_none hV
  obtain ⟨a0, len, cap, rfl⟩ := okWide_slice Yba.underlying22 (hval 0 22 v0 rfl rfl)
  obtain ⟨sel, rfl, rfl, rfl, wsel⟩ := open_int Yba.underlying5 (hval 1 5 v1 rfl rfl) h1
  obtain ⟨qs, rfl, rfl, rfl, wq⟩ := open_string Yba.underlying9 (hval 2 9 v2 rfl rfl) h2
  obtain ⟨uri, rfl, rfl, rfl, wuri⟩ := open_string Yba.underlying9 (hval 3 9 v3 rfl rfl) h3
  have h0k := h0
  obtain ⟨fuel, hf⟩ := h0
  clear hA0 hval0
  simp only [List.append_nil] at hW'
  have hlt : ∀ x ∈ p0, x.block < W.heap.size := fun x hx => by simpa using hW'.lt x hx
  have hsel : 0 ≤ sel ∧ sel ≤ 255 := by
    have := wsel
    simp [Lit.wf, IntKind.min, IntKind.max, IntKind.signed, IntKind.bits] at this
    omega
  have hr47 := reachBytes_lt
  have hq : qs.size ≤ 140737488355328 := by
    have h2 : qs.data.toList.length ≤ reachBytes := sized_string hsz (j := 2) (t := 9) rfl rfl
    have : qs.size = qs.data.toList.length := Lib.size_eq qs
    omega
  have fin : ∀ e W', (e = Ending.returned (.bool true) ∧ Below W.heap.size W W') →
      ∃ v, e = Ending.returned v ∧ Rows.lawS5397CGetModelSpec.post enc Yba.checked.prog Yba.f3 false true false false W #[.slice a0 len cap, .int .u8 sel, .string qs, .string uri] v W' := by
    intro e W' ⟨he, hB⟩
    subst he
    refine ⟨_, rfl, _, _, _, [], p0 ++ ([] ++ ([] ++ [])), [], hW', ?_, ?_, rfl, hB.frame _, fun h => by cases h⟩
    · exact trodAll_mk1 (shut_bool Yba.underlying4 _)
    · exact trodAll_mk4 (Below.trod laidOut (by kernel_rfl) (of_decide_eq_true (by kernel_rfl)) h0k hB hlt) (shut_int Yba.underlying5 wsel) (shut_string Yba.underlying9 wq) (shut_string Yba.underlying9 wuri)
  by_cases hlong : 1024 < len
  · exact (law_long a0 len cap sel qs uri W hlong).mono fin
  rcases open_strings Yba.underlying22 Yba.underlying9 cells9 hf with ⟨hcs, hx⟩ | ⟨a, len', cap', ss, hcs, _, hl, hm, hz, hx, hcell, hws⟩
  · simp [Value.cells] at hcs
    obtain ⟨rfl, rfl, rfl⟩ := hcs
    exact (law_none none 0 sel qs uri W hq).mono fin
  · simp [Value.cells] at hcs
    obtain ⟨rfl, rfl, rfl⟩ := hcs
    simp only [Prod.mk.injEq] at hx
    obtain ⟨rfl, rfl⟩ := hx
    simp only [if_true] at hz
    by_cases hl0 : len = 0
    · subst hl0
      exact (law_none (some a) cap sel qs uri W hq).mono fin
    · obtain ⟨b, off, spot⟩ := a
      have hspot : spot = none := by simpa [Addr.add] using World.cell?_spot (hcell 0 (by omega))
      subst hspot
      have hbW : b < W.heap.size := hlt (.cell b off) (MemPlace.mem_row.2 ⟨0, by omega, by simp⟩)
      have hss : ∀ j, j < len → (ss.getD j ByteArray.empty).size ≤ 140737488355328 := by
        intro j hj
        have hmem : (.lit (.string (ss.getD j ByteArray.empty).data.toList) : DataW H) ∈ strs (ss.take len) := by
          unfold strs
          refine List.mem_map.2 ⟨ss.getD j ByteArray.empty, ?_, rfl⟩
          have : (ss.take len)[j]? = some (ss.getD j ByteArray.empty) := by
            rw [List.getElem?_take_of_lt hj, List.getD_eq_getElem?_getD, List.getElem?_eq_getElem (by omega)]
            rfl
          exact List.mem_of_getElem? this
        have h2 := sized_in hsz (j := 0) rfl rfl hmem
        have : (ss.getD j ByteArray.empty).size = (ss.getD j ByteArray.empty).data.toList.length := Lib.size_eq _
        omega
      exact (law_any b off len cap ss sel qs uri W (by omega) (by omega) (by omega) hbW (fun j hj => by rw [← add_plain]; exact hcell j hj) hss hq hsel.1 hsel.2).mono fin

theorem lawS5397CGetModel_holds : Rows.LawS5397CGetModelSaid :=
  OpenClaim.holds_of_wide 3 Yba.f3 rfl rfl rfl rfl rfl rfl rfl ⟨rfl, rfl, rfl, rfl, rfl⟩ rfl rfl rfl rfl rfl (by kernel_rfl) Yba.func3 (by kernel_rfl)
    (of_decide_eq_true (by kernel_rfl)) (by unfold Func.isWrapper; first | (rw [if_pos (by decide +kernel)]; kernel_rfl) | (rw [if_neg (by decide +kernel)]; exact ⟨rfl, rfl⟩))
    (fun os started H enc _ => lifted os started H enc)
end Go.Proofs.Ybulkdgtc
