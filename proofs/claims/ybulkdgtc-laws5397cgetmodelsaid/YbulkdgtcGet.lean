/-
  (*Set).Get (6) walked: the lock taken and let go, the map looked into, the state's threshold handed back.
-/
import Derived.Test.YbulkdgtcBuild
import Derived.Laws.ResultCell
import Derived.Laws.Rows
namespace Go.Proofs.Ybulkdgtc
open Go.RowKit Go.Maps Go.WideMaps
open Go.MuLone

theorem run_store_float (P : Program) (w : World) (a : Addr) (m : Mode) (k : FloatKind) (x : Nat) : (store a (.float k x) m).run P w = stored P w a (.float k x) m := run_store P w a _ m rfl
attribute [local go_sem] run_store_float

theorem zero57 (w : World) : (zeroValue 57).run Yba.prog w = .ok (.pointer none) w := by kernel_rfl

/-- 'v, ok := m[k]' on the map of pointers, the outcome written out. -/
theorem wpList_look (w : World) {ops : Array Oper} {rest : List Oper} {o : Oper} {a : Act} {Q : Exit → Act → World → Prop} (hg : o.guard = none) (m x : Operand) (hop : o.op = Op.lookup 37 m x true)
    (b n : Nat) (D : DataW Unit) (hm : a.eval m = .map (some b)) (hown : w.ownsMap Yba.prog 9 ptrElem b n D) (key : Value) (kl : Lit) (hx : a.eval x = key) (hkey : keyOf Yba.prog 9 key = some kl)
    (v : Value) (bo : Bool) (hv : ∀ v' ps, ptrElem v' = some (D.atKey kl .nil, ps) → v' = v) (hb : Maps.has D kl = bo)
    (hK : wpList Yba.prog ops Q rest (a.put o.dst (.tuple #[v, .bool bo])) w) : wpList Yba.prog ops Q (o :: rest) a w :=
  wpList_lookup_own_ok w hg m x 37 hop 9 57 law Yba.underlying37 ptrElem (zero57 w) .nil [] ptrElem_nil b n D hm hown key kl hx hkey (fun v' ps h => by
    obtain rfl := hv v' ps h
    rw [hb]
    exact hK)

theorem res6 (tmps : Array Value) (W : World) (g : Nat) (cs : Array Value) (bo : Bool) (h4 : tmps.getD 4 undef = .pointer (some ⟨g, 0, none⟩)) (h5 : tmps.getD 5 undef = .bool bo)
    (hg : W.heap[g]? = some (.cells cs 52 (0, 0))) (hs : (Yba.prog.info? 52).map (·.size) = some cs.size) : (results Yba.f6 tmps).run Yba.prog W = .ok (.tuple #[.agg cs, .bool bo]) W := by
  rw [results_cell_tmp (p := 4) (u := 5) (ty := 52) (by kernel_rfl) tmps Yba.prog W, h4, h5]
  have hl := run_loadVar_row (P := Yba.prog) W g 52 52 cs (0, 0) _ hg Yba.underlying52 rfl hs
  simp [asAddr, hl, Result.andThen]

/-- The world behind Get, out of the one at its entry: the lock as it was; one block more. -/
structure Got (w0 w w' : World) (S M B len : Nat) (ss : List ByteArray) : Prop where
  map : w'.cell? ⟨S, 5, none⟩ = some (.map (some M))
  own : w'.ownsMap Yba.prog 9 ptrElem M len (dat ss B len)
  below : Below w0.heap.size w0 w'
  size : w.heap.size ≤ w'.heap.size

theorem Mid.got {w0 w : World} {S M B len : Nat} {ss : List ByteArray} {uri : ByteArray} (h : Mid w0 w S M B ss uri len) (X : Obj) :
    Got w0 w (((w.setCell ⟨S, 2, none⟩ (.int .i32 1)).alloc X).setCell ⟨S, 2, none⟩ (.int .i32 0)) S M B len ss := by
  have hS : S < w.heap.size := by have := h.size; have := h.ltS; omega
  have hw := h.below.size
  refine ⟨?_, ?_, ?_, ?_⟩
  · rw [World.cell?_setCell_other _ _ _ _ (by simp), World.cell?_alloc_past _ _ _ (by simpa using hS), World.cell?_setCell_other _ _ _ _ (by simp)]
    exact h.map
  · exact ((h.own.setCell (a := ⟨S, 2, none⟩) h.ne _).alloc X).setCell (a := ⟨S, 2, none⟩) h.ne _
  · exact ((h.below.setCell (p := ⟨S, 2, none⟩) h.lowS _).alloc (by simpa using hw) X).setCell (p := ⟨S, 2, none⟩) h.lowS _
  · simp

theorem end_block (w : World) (S : Nat) (hS : S < w.heap.size) (cs : Array Value) :
    (((w.setCell ⟨S, 2, none⟩ (.int .i32 1)).alloc (.cells cs 52)).setCell ⟨S, 2, none⟩ (.int .i32 0)).heap[w.heap.size]? = some (.cells cs 52 (0, 0)) := by
  rw [Below.heap_setCell _ _ _ _ (by simp; omega)]
  have := (MapKept.heap_alloc (w.setCell ⟨S, 2, none⟩ (.int .i32 1)) (.cells cs 52)).1
  simpa using this

theorem end_lock (w : World) (S : Nat) (hS : S < w.heap.size) (c2 : w.cell? ⟨S, 2, none⟩ = some (.int .i32 0)) (X : Obj) :
    ((w.setCell ⟨S, 2, none⟩ (.int .i32 1)).alloc X).cell? ⟨S, 2, none⟩ = some (.int .i32 1) := by
  rw [World.cell?_alloc_past _ _ _ (by simpa using hS)]
  exact World.cell?_setCell_same _ _ _ c2

theorem end_free (w : World) (S : Nat) (hS : S < w.heap.size) (f2 : w.frozen? ⟨S, 2, none⟩ = false) (X : Obj) :
    ((w.setCell ⟨S, 2, none⟩ (.int .i32 1)).alloc X).frozen? ⟨S, 2, none⟩ = false := by
  rw [World.frozen?_alloc_past _ _ _ (by simpa using hS), World.frozen?_setCell]
  exact f2

set_option maxRecDepth 100000 in
set_option maxHeartbeats 400000 in
theorem get_miss (w0 : World) (S M B len : Nat) (ss : List ByteArray) (uri key : ByteArray) (w : World) (hM : Mid w0 w S M B ss uri len) (hkz : key.size ≤ 140737488355328) (hl : lastTo ss key.data.toList len = none) :
    Calls Yba.prog 6 #[.pointer (some ⟨S, 0, none⟩), .string key] w fun e w' => 
      e = .returned (.tuple #[.agg #[.string ⟨#[]⟩, .string ⟨#[]⟩, .string ⟨#[]⟩, .slice none 0 0, .string ⟨#[]⟩, .float .f64 0, .float .f64 0, .string ⟨#[]⟩], .bool false]) ∧
      Got w0 w w' S M B len ss := by
  have hkey : keyOf Yba.prog 9 (.string key) = some (.string key.data.toList) := keyOf_string_mk Yba.underlying9 (by unfold maxLen; omega)
  have hhas : Maps.has (dat ss B len) (.string key.data.toList) = false := by rw [dat_has, hl]; rfl
  have hat : (dat ss B len).atKey (.string key.data.toList) .nil = .nil := by rw [dat_at, hl]
  have HV : Hid (∀ v' ps, ptrElem v' = some ((dat ss B len).atKey (.string key.data.toList) .nil, ps) → v' = .pointer none) := fun v' ps h => ptrElem_inv_nil (by rw [hat] at h; exact h)
  have c2 := hM.lock
  have f2 := hM.free
  have c5 := hM.map
  have hown := hM.own
  have hS : S < w.heap.size := by have := hM.size; have := hM.ltS; omega
  have hne := hM.ne
  have HH : Hid (Maps.has (dat ss B len) (.string key.data.toList) = false) := hhas
  clear hhas hat
  go_enter_defers Yba.func6, Yba.ntmps6
  go_wp2_with fail
  refine (lock_free Yba.muLib ⟨S, 2, none⟩ _ (by rw [World.cell?_alloc_past _ _ _ hS]; exact c2) (by rw [World.frozen?_alloc_past _ _ _ hS]; exact f2)).mono ?_
  rintro e w1 ⟨rfl, rfl⟩
  have hown1 : (w.setCell ⟨S, 2, none⟩ (.int .i32 1)).ownsMap Yba.prog 9 ptrElem M len (dat ss B len) := hown.setCell (a := ⟨S, 2, none⟩) hne _
  have c5' : (w.setCell ⟨S, 2, none⟩ (.int .i32 1)).cell? ⟨S, 5, none⟩ = some (.map (some M)) := (World.cell?_setCell_other _ _ _ _ (by simp)).trans c5
  go_wp2_with (at_lookup; refine wpList_look _ rfl _ _ rfl M len _ rfl (hown1.alloc _) _ _ rfl hkey (.pointer none) false HV.out HH.out ?_)
  -- THE DOOR
  have HG := hM.got
  refine leaves_cons (f := 9) (args := #[.pointer (some ⟨S, 2, none⟩)]) (by simp) (by simp [go_sem]) ?_
  refine (unlock_deferred Yba.muLib ⟨S, 2, none⟩ .returning _ (end_lock w S hS c2 _) (end_free w S hS f2 _)).mono ?_
  rintro e u' w'' ⟨rfl, rfl, rfl⟩
  exact ⟨_, res6 _ _ w.heap.size _ false rfl rfl (end_block w S hS _) (by kernel_rfl), rfl, HG _⟩
set_option maxRecDepth 100000 in
set_option maxHeartbeats 400000 in
theorem get_hit (w0 : World) (S M B len : Nat) (ss : List ByteArray) (uri key : ByteArray) (w : World) (hM : Mid w0 w S M B ss uri len) (hkz : key.size ≤ 140737488355328) (i : Nat) (hl : lastTo ss key.data.toList len = some i) :
    Calls Yba.prog 6 #[.pointer (some ⟨S, 0, none⟩), .string key] w fun e w' => 
      e = .returned (.tuple #[.agg #[.string (ss.getD i ByteArray.empty), .string ⟨#[]⟩, .string (⟨#[111]⟩ ++ ss.getD i ByteArray.empty), .slice none 0 0, .string ⟨#[]⟩, .float .f64 (floatOfInt .f64 (i : Int)), .float .f64 4602678819172646912, .string uri], .bool true]) ∧
      Got w0 w w' S M B len ss := by
  have hkey : keyOf Yba.prog 9 (.string key) = some (.string key.data.toList) := keyOf_string_mk Yba.underlying9 (by unfold maxLen; omega)
  have hhas : Maps.has (dat ss B len) (.string key.data.toList) = true := by rw [dat_has, hl]; rfl
  have hat : (dat ss B len).atKey (.string key.data.toList) .nil = .lit (.int .i64 ((B + i : Nat) : Int)) := by rw [dat_at, hl]
  have HV : Hid (∀ v' ps, ptrElem v' = some ((dat ss B len).atKey (.string key.data.toList) .nil, ps) → v' = .pointer (some ⟨B + i, 0, none⟩)) := fun v' ps h => ptrElem_inv (by rw [hat] at h; exact h)
  have c2 := hM.lock
  have f2 := hM.free
  have c5 := hM.map
  have hown := hM.own
  have hS : S < w.heap.size := by have := hM.size; have := hM.ltS; omega
  have hne := hM.ne
  have HH : Hid (Maps.has (dat ss B len) (.string key.data.toList) = true) := hhas
  clear hhas hat
  go_enter_defers Yba.func6, Yba.ntmps6
  go_wp2_with fail
  refine (lock_free Yba.muLib ⟨S, 2, none⟩ _ (by rw [World.cell?_alloc_past _ _ _ hS]; exact c2) (by rw [World.frozen?_alloc_past _ _ _ hS]; exact f2)).mono ?_
  rintro e w1 ⟨rfl, rfl⟩
  have hown1 : (w.setCell ⟨S, 2, none⟩ (.int .i32 1)).ownsMap Yba.prog 9 ptrElem M len (dat ss B len) := hown.setCell (a := ⟨S, 2, none⟩) hne _
  have c5' : (w.setCell ⟨S, 2, none⟩ (.int .i32 1)).cell? ⟨S, 5, none⟩ = some (.map (some M)) := (World.cell?_setCell_other _ _ _ _ (by simp)).trans c5
  have hBi : B + i < w.heap.size := by have := hM.size; have := (lastTo_some hl).1; omega
  have hblk := hM.st i (lastTo_some hl).1
  have hcell : ∀ j, (w.setCell ⟨S, 2, none⟩ (.int .i32 1)).cell? ⟨B + i, j, none⟩ = (stC (ss.getD i ByteArray.empty) uri (i : Int))[j]? := fun j => by
    rw [World.cell?_setCell_other _ _ _ _ (by have := hM.ltS; intro e; injection e with e1 _; omega)]
    simp [World.cell?, hblk]
  have k0 := hcell 0
  have k1 := hcell 1
  have k2 := hcell 2
  have k3 := hcell 3
  have k4 := hcell 4
  have k5 := hcell 5
  have k6 := hcell 6
  have k7 := hcell 7
  simp only [stC] at k0 k1 k2 k3 k4 k5 k6 k7
  simp at k0 k1 k2 k3 k4 k5 k6 k7
  clear hcell hblk
  go_wp2_with (at_lookup; refine wpList_look _ rfl _ _ rfl M len _ rfl (hown1.alloc _) _ _ rfl hkey (.pointer (some ⟨B + i, 0, none⟩)) true HV.out HH.out ?_)
  -- THE DOOR
  have HG := hM.got
  refine leaves_cons (f := 9) (args := #[.pointer (some ⟨S, 2, none⟩)]) (by simp) (by simp [go_sem]) ?_
  refine (unlock_deferred Yba.muLib ⟨S, 2, none⟩ .returning _ (end_lock w S hS c2 _) (end_free w S hS f2 _)).mono ?_
  rintro e u' w'' ⟨rfl, rfl, rfl⟩
  exact ⟨_, res6 _ _ w.heap.size _ true rfl rfl (end_block w S hS _) (by kernel_rfl), rfl, HG _⟩
end Go.Proofs.Ybulkdgtc
