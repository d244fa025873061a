/-
  NewSet (7) and zzs5397cbuild (4) walked: the set, its lock, its map, a state for each text.
-/
import Derived.Test.YbulkdgtcPlain
namespace Go.Proofs.Ybulkdgtc
open Go.RowKit Go.Maps Go.WideMaps

/-- What holds of the set just made: S: its block; M: its map's; B: the heap's size. -/
structure Made (w wr : World) (S M B : Nat) : Prop where
  map : wr.cell? ⟨S, 5, none⟩ = some (.map (some M))
  lock : wr.cell? ⟨S, 2, none⟩ = some (.int .i32 0)
  free : wr.frozen? ⟨S, 2, none⟩ = false
  own : ∀ R, wr.ownsMap (H := Unit) Yba.prog 9 R M 0 (.map [])
  size : wr.heap.size = B
  lowM : w.heap.size ≤ M
  lowS : w.heap.size ≤ S
  ltM : M < B
  ltS : S < B
  ne : M ≠ S
  below : Below w.heap.size w wr

set_option maxHeartbeats 400000 in
theorem new_any (w : World) :
    Calls Yba.prog 7 #[.nilFunc, .nilFunc] w fun e w' => ∃ S M B, e = .returned (.pointer (some ⟨S, 0, none⟩)) ∧ Made w w' S M B := by
  have hmm := @run_makeMap Yba.prog
  go_enter Yba.func7, Yba.ntmps7
  go_wp2
  go_ret
  refine ⟨w.heap.size + 1 + 1 + 1, w.heap.size, w.heap.size + 1 + 1 + 1 + 1, rfl, ?_, ?_, ?_, ?_, ?_, ?_, ?_, ?_, ?_, ?_, ?_⟩
  · rw [World.cell?_alloc_at _ _ _ _ (by simp)]; rfl
  · rw [World.cell?_alloc_at _ _ _ _ (by simp)]; rfl
  · rw [World.frozen?_alloc_at _ _ _ _ (by simp)]
  · intro R
    exact (((World.ownsMap_made w Yba.prog 9 R).alloc _).alloc _).alloc _
  · simp
  · omega
  · omega
  · omega
  · omega
  · omega
  · exact ((((Below.refl _ _).alloc (by omega) _).alloc (by simp) _).alloc (by simp; omega) _).alloc (by simp; omega) _

/-- The cells of the k-th state. -/
def stC (s uri : ByteArray) (k : Int) : Array Value :=
  #[.string s, .string ⟨#[]⟩, .string (⟨#[111]⟩ ++ s), .slice none 0 0, .string ⟨#[]⟩, .float .f64 (floatOfInt .f64 k), .float .f64 4602678819172646912, .string uri, .float .f64 0, .float .f64 0, .map none, .pointer none, .pointer none]

/-- What holds after k rounds. -/
structure Mid (w wr : World) (S M B : Nat) (ss : List ByteArray) (uri : ByteArray) (k : Nat) : Prop where
  map : wr.cell? ⟨S, 5, none⟩ = some (.map (some M))
  lock : wr.cell? ⟨S, 2, none⟩ = some (.int .i32 0)
  free : wr.frozen? ⟨S, 2, none⟩ = false
  own : wr.ownsMap Yba.prog 9 ptrElem M k (dat ss B k)
  st : ∀ i, i < k → wr.heap[B + i]? = some (.cells (stC (ss.getD i ByteArray.empty) uri (i : Int)) 63 (0, 0))
  size : wr.heap.size = B + k
  lowM : w.heap.size ≤ M
  lowS : w.heap.size ≤ S
  ltM : M < B
  ltS : S < B
  ne : M ≠ S
  below : Below w.heap.size w wr

theorem Made.mid {w wr : World} {S M B : Nat} (h : Made w wr S M B) (ss : List ByteArray) (uri : ByteArray) : Mid w wr S M B ss uri 0 where
  map := h.map
  lock := h.lock
  free := h.free
  own := h.own _
  st := fun _ hi => absurd hi (Nat.not_lt_zero _)
  size := h.size
  lowM := h.lowM
  lowS := h.lowS
  ltM := h.ltM
  ltS := h.ltS
  ne := h.ne
  below := h.below

theorem Mid.step {w wr w' : World} {S M B : Nat} {ss : List ByteArray} {uri : ByteArray} {k : Nat} (h : Mid w wr S M B ss uri k)
    (hown : w'.ownsMap Yba.prog 9 ptrElem M (k + 1) ((dat ss B k).put (.string (ss.getD k ByteArray.empty).data.toList) (.lit (.int .i64 ((B + k : Nat) : Int)))))
    (hg : (wr.alloc (.cells (stC (ss.getD k ByteArray.empty) uri (k : Int)) 63 (0, 0))).grownBy w' (some M)) (hsize : w'.heap.size = wr.heap.size + 1) : Mid w w' S M B ss uri (k + 1) := by
  have hz := h.size
  have hltS := h.ltS
  have hltM := h.ltM
  have hne := h.ne
  have hS : w'.heap[S]? = wr.heap[S]? := (hg.block S (by simp; omega) (by simpa using fun e => hne e.symm)).trans (Below.heap_alloc _ _ _ (by omega))
  refine ⟨?_, ?_, ?_, hown, ?_, ?_, h.lowM, h.lowS, h.ltM, h.ltS, h.ne, ?_⟩
  · exact (World.cell?_of_block (w := wr) hS).trans h.map
  · exact (World.cell?_of_block (w := wr) hS).trans h.lock
  · exact (World.frozen?_of_block (w := wr) hS).trans h.free
  · intro i hi
    rw [hg.block (B + i) (by simp; omega) (by simp; omega)]
    by_cases e : i = k
    · subst e
      rw [← hz]
      exact (MapKept.heap_alloc wr _).1
    · rw [Below.heap_alloc _ _ _ (by omega)]
      exact h.st i (by omega)
  · omega
  · exact (h.below.alloc h.below.size _).grown hg (by have := h.below.size; simp; omega) (fun j hj => by cases hj; exact h.lowM)

theorem turned_size {w w' : World} {b : Nat} (h : w.mapTurned w' b) : w'.heap.size = w.heap.size := by
  obtain ⟨es, clock, es', clock', hb, rfl⟩ := h
  simp [ChangeMaps.setBlock]

set_option maxRecDepth 100000 in
set_option maxHeartbeats 400000 in
theorem build_any (b off len cap : Nat) (ss : List ByteArray) (uri : ByteArray) (w : World) (hlen : len ≤ 1024) (hz : len ≤ ss.length) (hb : b < w.heap.size)
    (hc : ∀ j, j < ss.length → w.cell? ⟨b, off + j, none⟩ = some (.string (ss.getD j ByteArray.empty))) (hsz : ∀ j, j < len → (ss.getD j ByteArray.empty).size ≤ 140737488355328) :
    Calls Yba.prog 4 #[.slice (some ⟨b, off, none⟩) len cap, .string uri] w fun e w' => ∃ S M B, e = .returned (.pointer (some ⟨S, 0, none⟩)) ∧ Mid w w' S M B ss uri len := by
  go_enter Yba.func4, Yba.ntmps4
  go_wp2_with fail
  refine (new_any w).mono ?_
  rintro e w1 ⟨S, M, B, rfl, hM⟩
  have h0 := hM.mid ss uri
  clear hM
  go_wp2
  go_loopw [11] (fun i wr => ∃ k : Nat, k ≤ len ∧ i = .int .i64 k ∧ Mid w wr S M B ss uri k)
    (fun i _ => len - (intOf i).toNat)
  case atStart => exact ⟨0, by omega, rfl, h0⟩
  case round =>
    clear h0
    obtain ⟨k, hk, rfl, hR⟩ := hrel
    by_cases hlt : k < len
    · have hx : wr.cell? ⟨b, off + k, none⟩ = some (.string (ss.getD k ByteArray.empty)) := (hR.below.cell (by exact hb)).trans (hc k (by omega))
      have hm := hR.map
      have hsize := hR.size
      have hss := hsz k hlt
      have hstep := fun w' h1 h2 h3 => Mid.step (w' := w') hR h1 h2 h3
      have hown := hR.own
      have hkey : keyOf Yba.prog 9 (.string (ss.getD k ByteArray.empty)) = some (.string (ss.getD k ByteArray.empty).data.toList) := keyOf_string_mk Yba.underlying9 (by unfold maxLen; omega)
      have HS : Hid _ := hstep
      clear hR hstep hsz hc
      generalize ss.getD k ByteArray.empty = s at hx hss HS hkey
      go_wp2_with (first
        | (at_mapUpdate; refine wpList_mapUpdate_in _ rfl _ _ _ 37 rfl 9 57 law Yba.underlying37 _ M k _ rfl (hown.alloc _) (by unfold maxLen; omega) _ _ _ rfl rfl hkey _ [] (ptrElem_mk _) ?_))
      intro w2 hown2 hturn
      have hz2 := turned_size hturn
      have R := HS.out w2 (by rw [Int.natCast_add]; exact hown2) hturn.grown (by rw [hz2]; simp)
      clear HS hown2 hturn hz2 hown hkey hx hm hsize
      go_wp2
      go_roundw
      case rel => exact ⟨k + 1, by omega, by go_num, R⟩
      case measure => simp [intOf]; omega
    · have hkl : k = len := by omega
      subst hkl
      go_wp2
      go_ret
      exact ⟨S, M, B, rfl, hR⟩

theorem build_none (a : Option Addr) (cap : Nat) (ss : List ByteArray) (uri : ByteArray) (w : World) :
    Calls Yba.prog 4 #[.slice a 0 cap, .string uri] w fun e w' => ∃ S M B, e = .returned (.pointer (some ⟨S, 0, none⟩)) ∧ Mid w w' S M B ss uri 0 := by
  go_enter Yba.func4, Yba.ntmps4
  go_wp2_with fail
  refine (new_any w).mono ?_
  rintro e w1 ⟨S, M, B, rfl, hM⟩
  have h0 := hM.mid ss uri
  clear hM
  go_wp2
  refine wp_loop_rounds 1 ?_
  rw [rounds_succ]
  go_wp2
  go_ret
  exact ⟨S, M, B, rfl, h0⟩
end Go.Proofs.Ybulkdgtc
