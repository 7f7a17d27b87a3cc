import Derived.Test.Qxb6602560aUpright
import Derived.Deep.RegionWith
import Derived.Deep.DeepCutAuto
namespace Go.Proofs.Qxb6602560a
open Go.ChangeShapes Go.WideShapes Go.ChangeAt Go.RowKit
set_option linter.unusedVariables false
attribute [local go_sem] run_store_float

theorem Try.info28' : (Try.prog.info? 28).map (fun i => (i.zero, i.size, i.bytes)) = some (some (.float .f32 0), 1, 4) := by kernel_rfl
theorem Try.info22' : (Try.prog.info? 22).map (fun i => (i.zero, i.size, i.bytes)) = some (some (.slice none 0 0), 1, 24) := by kernel_rfl

/-- The four captured variables of 'offset', in blocks of the call's own. -/
structure Cap (w : World) (bo bs bh bd : Nat) (o st : Int) (sw sh : Nat) (p d1 d2 : Value) (wx : World) : Prop where
  co : wx.cell? ⟨bo, 0, none⟩ = some (.int .u16 o)
  cs : wx.cell? ⟨bs, 0, none⟩ = some (.int .i64 sw)
  ch : wx.cell? ⟨bh, 0, none⟩ = some (.int .i64 sh)
  c0 : wx.cell? ⟨bd, 0, none⟩ = some p
  c1 : wx.cell? ⟨bd, 1, none⟩ = some d1
  c2 : wx.cell? ⟨bd, 2, none⟩ = some d2
  c3 : wx.cell? ⟨bd, 3, none⟩ = some (.int .i64 st)
  hb : Below w.heap.size w wx
  los : w.heap.size + 2 ≤ bs
  loh : w.heap.size + 2 ≤ bh
  ne1 : bs ≠ bh
  fs : wx.frozen? ⟨bs, 0, none⟩ = false
  fh : wx.frozen? ⟨bh, 0, none⟩ = false

/-- Stores into other blocks, new blocks and draws leave them. -/
theorem Cap.later {w : World} {bo bs bh bd : Nat} {o st : Int} {sw sh : Nat} {p d1 d2 : Value} {wx wy : World} (h : Cap w bo bs bh bd o st sw sh p d1 d2 wx) (hb : Below wx.heap.size wx wy) (hbw : Below w.heap.size w wy) : Cap w bo bs bh bd o st sw sh p d1 d2 wy := by
  have lt : ∀ {b o v}, wx.cell? ⟨b, o, none⟩ = some v → wy.cell? ⟨b, o, none⟩ = some v := fun {b o v} hc => (hb.cell (p := ⟨b, o, none⟩) (World.block_lt_of_cell? _ _ hc)).trans hc
  have lf : ∀ {b o v}, wx.cell? ⟨b, o, none⟩ = some v → wx.frozen? ⟨b, o, none⟩ = false → wy.frozen? ⟨b, o, none⟩ = false := fun {b o v} hc hf => (hb.frozen (p := ⟨b, o, none⟩) (World.block_lt_of_cell? _ _ hc)).trans hf
  exact ⟨lt h.co, lt h.cs, lt h.ch, lt h.c0, lt h.c1, lt h.c2, lt h.c3, hbw, h.los, h.loh, h.ne1, lf h.cs h.fs, lf h.ch h.fh⟩

theorem sc_block (W : World) {b b' : Nat} (x y : Nat) (v : Value) (h : b ≠ b') : (W.setCell ⟨b, x, none⟩ v).cell? ⟨b', y, none⟩ = W.cell? ⟨b', y, none⟩ := by
  apply World.cell?_setCell_other
  intro e; injection e with e1; exact h e1

theorem Cap.swap {w : World} {bs bh : Nat} {o st : Int} {sw sh : Nat} {p d1 d2 : Value} {wx : World} (h : Cap w w.heap.size bs bh (w.heap.size + 1) o st sw sh p d1 d2 wx) :
    Cap w w.heap.size bs bh (w.heap.size + 1) o st sh sw p d1 d2 ((wx.setCell ⟨bs, 0, none⟩ (.int .i64 sh)).setCell ⟨bh, 0, none⟩ (.int .i64 sw)) := by
  have l1 := h.los
  have l2 := h.loh
  have n1 := h.ne1
  refine ⟨?_, ?_, ?_, ?_, ?_, ?_, ?_, (h.hb.setCell (by show w.heap.size ≤ bs; omega) _).setCell (by show w.heap.size ≤ bh; omega) _, l1, l2, n1, ?_, ?_⟩
  · rw [sc_block _ _ _ _ (by omega), sc_block _ _ _ _ (by omega)]; exact h.co
  · rw [sc_block _ _ _ _ (by omega)]; exact sc_same _ _ _ _ _ h.cs
  · exact sc_same _ _ _ _ (.int .i64 sh) (by rw [sc_block _ _ _ _ (by omega)]; exact h.ch)
  · rw [sc_block _ _ _ _ (by omega), sc_block _ _ _ _ (by omega)]; exact h.c0
  · rw [sc_block _ _ _ _ (by omega), sc_block _ _ _ _ (by omega)]; exact h.c1
  · rw [sc_block _ _ _ _ (by omega), sc_block _ _ _ _ (by omega)]; exact h.c2
  · rw [sc_block _ _ _ _ (by omega), sc_block _ _ _ _ (by omega)]; exact h.c3
  · rw [World.frozen?_setCell, World.frozen?_setCell]; exact h.fs
  · rw [World.frozen?_setCell, World.frozen?_setCell]; exact h.fh

/-- The scaler in block s, and the variables of 'offset' beside it. -/
structure Scl (w : World) (s bs bh : Nat) (o st : Int) (sw sh : Nat) (p d1 d2 : Value) (wx : World) : Prop where
  cap : Cap w w.heap.size bs bh (w.heap.size + 1) o st sw sh p d1 d2 wx
  ex : ∀ j, j < 16 → ∃ v, wx.cell? ⟨s, j, none⟩ = some v
  fz : ∀ j, wx.frozen? ⟨s, j, none⟩ = false
  c13 : wx.cell? ⟨s, 13, none⟩ = some (.int .i64 0)
  c14 : wx.cell? ⟨s, 14, none⟩ = some (.int .i64 0)
  s1 : bs < s
  s2 : bh < s
  org : ∃ v, wx.cell? ⟨s, 4, none⟩ = some (.int .i64 v)

theorem Scl.drew {w : World} {s bs bh : Nat} {o st : Int} {sw sh : Nat} {p d1 d2 : Value} {W : World} (h : Scl w s bs bh o st sw sh p d1 d2 W) : Scl w s bs bh o st sw sh p d1 d2 W.drew :=
  ⟨⟨h.cap.co, h.cap.cs, h.cap.ch, h.cap.c0, h.cap.c1, h.cap.c2, h.cap.c3, h.cap.hb.drew, h.cap.los, h.cap.loh, h.cap.ne1, h.cap.fs, h.cap.fh⟩, h.ex, h.fz, h.c13, h.c14, h.s1, h.s2, h.org⟩

theorem Scl.later {w : World} {s bs bh : Nat} {o st : Int} {sw sh : Nat} {p d1 d2 : Value} {W W' : World} (h : Scl w s bs bh o st sw sh p d1 d2 W) (hb : Below W.heap.size W W') : Scl w s bs bh o st sw sh p d1 d2 W' := by
  have hs : s < W.heap.size := World.block_lt_of_cell? _ _ h.c13
  have hc : ∀ j, W'.cell? ⟨s, j, none⟩ = W.cell? ⟨s, j, none⟩ := fun j => hb.cell (p := ⟨s, j, none⟩) hs
  have hf : ∀ j, W'.frozen? ⟨s, j, none⟩ = W.frozen? ⟨s, j, none⟩ := fun j => hb.frozen (p := ⟨s, j, none⟩) hs
  exact ⟨h.cap.later hb (h.cap.hb.trans (hb.mono h.cap.hb.size)), fun j hj => by rw [hc]; exact h.ex j hj, fun j => by rw [hf]; exact h.fz j, (hc _).trans h.c13, (hc _).trans h.c14, h.s1, h.s2, by obtain ⟨v, hv⟩ := h.org; exact ⟨v, (hc _).trans hv⟩⟩

theorem Scl.set {w : World} {s bs bh : Nat} {o st : Int} {sw sh : Nat} {p d1 d2 : Value} {W : World} (h : Scl w s bs bh o st sw sh p d1 d2 W) (j : Nat) (hj : j < 16) (h4 : j ≠ 4) (h13 : j ≠ 13) (h14 : j ≠ 14) (v : Value) : Scl w s bs bh o st sw sh p d1 d2 (W.setCell ⟨s, j, none⟩ v) := by
  have l1 := h.cap.los
  have l2 := h.cap.loh
  have s1 := h.s1
  have s2 := h.s2
  have hb : ∀ b x, b < s → (W.setCell ⟨s, j, none⟩ v).cell? ⟨b, x, none⟩ = W.cell? ⟨b, x, none⟩ := fun b x hx => sc_block _ _ _ _ (by omega)
  refine ⟨⟨?_, ?_, ?_, ?_, ?_, ?_, ?_, h.cap.hb.setCell (by show w.heap.size ≤ s; omega) _, l1, l2, h.cap.ne1, ?_, ?_⟩, fun i hi => ?_, fun i => ?_, ?_, ?_, s1, s2, ?_⟩
  · rw [hb _ _ (by omega)]; exact h.cap.co
  · rw [hb _ _ (by omega)]; exact h.cap.cs
  · rw [hb _ _ (by omega)]; exact h.cap.ch
  · rw [hb _ _ (by omega)]; exact h.cap.c0
  · rw [hb _ _ (by omega)]; exact h.cap.c1
  · rw [hb _ _ (by omega)]; exact h.cap.c2
  · rw [hb _ _ (by omega)]; exact h.cap.c3
  · rw [World.frozen?_setCell]; exact h.cap.fs
  · rw [World.frozen?_setCell]; exact h.cap.fh
  · by_cases e : j = i
    · subst e
      obtain ⟨u, hu⟩ := h.ex j hj
      exact ⟨v, sc_same _ _ _ _ _ hu⟩
    · rw [sc_other _ _ _ _ _ e]; exact h.ex i hi
  · rw [World.frozen?_setCell]; exact h.fz i
  · rw [sc_other _ _ _ _ _ h13]; exact h.c13
  · rw [sc_other _ _ _ _ _ h14]; exact h.c14
  · obtain ⟨u, hu⟩ := h.org
    exact ⟨u, by rw [sc_other _ _ _ _ _ h4]; exact hu⟩

/-- The scaler when all but its sums is laid. -/
structure Fin (w : World) (s gx gy gs bs n h sw sh L : Nat) (wx : World) : Prop where
  hb : Below w.heap.size w wx
  c7 : wx.cell? ⟨s, 7, none⟩ = some (.slice (some ⟨gx, 0, none⟩) sw sw)
  c8 : wx.cell? ⟨s, 8, none⟩ = some (.slice (some ⟨gy, 0, none⟩) sh sh)
  c9 : wx.cell? ⟨s, 9, none⟩ = some (.float .f32 (fdiv (f32 sw) (f32 n)))
  c10 : wx.cell? ⟨s, 10, none⟩ = some (.float .f32 (fdiv (f32 sh) (f32 h)))
  c12 : wx.cell? ⟨s, 12, none⟩ = some (.slice (some ⟨gs, 0, none⟩) L L)
  c13 : wx.cell? ⟨s, 13, none⟩ = some (.int .i64 0)
  c14 : wx.cell? ⟨s, 14, none⟩ = some (.int .i64 0)
  c15 : wx.cell? ⟨s, 15, none⟩ = some (.bool false)
  cs : wx.cell? ⟨bs, 0, none⟩ = some (.int .i64 sw)
  hx : ∀ i, i < sw → CovAt wx gx n sw i
  hy : ∀ i, i < sh → CovAt wx gy h sh i
  gex : ∀ j, j < L → ∃ v, wx.cell? ⟨gs, j, none⟩ = some v
  gfz : ∀ j, wx.frozen? ⟨gs, j, none⟩ = false
  l1 : s < gs
  l2 : gx < gs
  l3 : gy < gs
  l4 : bs < gs
  l5 : w.heap.size ≤ gs
  l6 : gs < wx.heap.size

theorem CovAt.of {w w' : World} {g n m i : Nat} (h : CovAt w g n m i) (hc : ∀ j, w'.cell? ⟨g, j, none⟩ = w.cell? ⟨g, j, none⟩) : CovAt w' g n m i :=
  ⟨(hc _).trans h.1, (hc _).trans h.2.1, (hc _).trans h.2.2.1, (hc _).trans h.2.2.2⟩

theorem Fin.step {w : World} {s gx gy gs bs n h sw sh L : Nat} {wx : World} (f : Fin w s gx gy gs bs n h sw sh L wx) (o : Obj) (k : Nat) (v : Value) : Fin w s gx gy gs bs n h sw sh L ((wx.setCell ⟨gs, k, none⟩ v).alloc o).drew := by
  have l1 := f.l1
  have l2 := f.l2
  have l3 := f.l3
  have l4 := f.l4
  have l5 := f.l5
  have l6 := f.l6
  have l6' : gs < (wx.setCell ⟨gs, k, none⟩ v).heap.size := by simpa [World.setCell] using l6
  have hc : ∀ b x, b < gs → ((wx.setCell ⟨gs, k, none⟩ v).alloc o).drew.cell? ⟨b, x, none⟩ = wx.cell? ⟨b, x, none⟩ := fun b x hx => by
    show ((wx.setCell ⟨gs, k, none⟩ v).alloc o).cell? ⟨b, x, none⟩ = _
    rw [World.cell?_alloc_past (w := wx.setCell ⟨gs, k, none⟩ v) o b x (by omega)]; exact sc_block _ _ _ _ (by omega)
  refine ⟨((f.hb.setCell (by exact l5) _).alloc (f.hb.setCell (p := ⟨gs, k, none⟩) (by exact l5) v).size o).drew, (hc _ _ l1).trans f.c7, (hc _ _ l1).trans f.c8, (hc _ _ l1).trans f.c9, (hc _ _ l1).trans f.c10, (hc _ _ l1).trans f.c12, (hc _ _ l1).trans f.c13, (hc _ _ l1).trans f.c14, (hc _ _ l1).trans f.c15, (hc _ _ l4).trans f.cs,
    fun i hi => (f.hx i hi).of (fun j => hc _ _ l2), fun i hi => (f.hy i hi).of (fun j => hc _ _ l3), fun j hj => ?_, fun j => ?_, l1, l2, l3, l4, l5, by show gs < ((wx.setCell ⟨gs, k, none⟩ v).alloc o).heap.size; simp [World.setCell]; omega⟩
  · show ∃ u, ((wx.setCell ⟨gs, k, none⟩ v).alloc o).cell? ⟨gs, j, none⟩ = some u
    rw [World.cell?_alloc_past (w := wx.setCell ⟨gs, k, none⟩ v) o gs j l6']
    obtain ⟨u, hu⟩ := f.gex j hj
    by_cases e : k = j
    · subst e; exact ⟨v, sc_same _ _ _ _ _ hu⟩
    · exact ⟨u, (sc_other _ _ _ _ _ e).trans hu⟩
  · show ((wx.setCell ⟨gs, k, none⟩ v).alloc o).frozen? ⟨gs, j, none⟩ = false
    rw [World.frozen?_of_block (w := wx.setCell ⟨gs, k, none⟩ v) (Below.heap_alloc (wx.setCell ⟨gs, k, none⟩ v) o gs l6'), World.frozen?_setCell]
    exact f.gfz j

/-- What newScaler hands back. -/
def Made (w : World) (n h sw sh s : Nat) (w' : World) : Prop :=
  Below w.heap.size w w' ∧ w'.cell? ⟨s, 13, none⟩ = some (.int .i64 0) ∧ w'.cell? ⟨s, 14, none⟩ = some (.int .i64 0) ∧
  ((w'.cell? ⟨s, 15, none⟩ = some (.bool true)) ∨
   (w'.cell? ⟨s, 15, none⟩ = some (.bool false) ∧ ∃ gx gy, w'.cell? ⟨s, 7, none⟩ = some (.slice (some ⟨gx, 0, none⟩) sw sw) ∧ w'.cell? ⟨s, 8, none⟩ = some (.slice (some ⟨gy, 0, none⟩) sh sh) ∧
     w'.cell? ⟨s, 9, none⟩ = some (.float .f32 (fdiv (f32 sw) (f32 n))) ∧ w'.cell? ⟨s, 10, none⟩ = some (.float .f32 (fdiv (f32 sh) (f32 h))) ∧ gx < w'.heap.size ∧ gy < w'.heap.size ∧
     (∀ i, i < sw → CovAt w' gx n sw i) ∧ ∀ i, i < sh → CovAt w' gy h sh i))

theorem Scl.new {w : World} {bs bh : Nat} {o st : Int} {sw sh : Nat} {p d1 d2 : Value} {W : World} (CAP : Cap w w.heap.size bs bh (w.heap.size + 1) o st sw sh p d1 d2 W) (A : Array Value) (v : Int) (x : Value) :
    Scl w (W.heap.size + 1) bs bh o st sw sh p d1 d2 ((W.alloc (.cells A 28)).alloc (.cells #[p, d1, d2, .int .i64 st, .int .i64 v, .int .i64 0, .int .i64 0, .slice none 0 0, .slice none 0 0, .float .f32 0, .float .f32 0, x, .slice none 0 0, .int .i64 0, .int .i64 0, .bool false] 49)).drew := by
  have hbel : Below W.heap.size W ((W.alloc (.cells A 28)).alloc (.cells #[p, d1, d2, .int .i64 st, .int .i64 v, .int .i64 0, .int .i64 0, .slice none 0 0, .slice none 0 0, .float .f32 0, .float .f32 0, x, .slice none 0 0, .int .i64 0, .int .i64 0, .bool false] 49)).drew :=
    (((Below.refl _ _).alloc (Nat.le_refl _) _).alloc (by simp) _).drew
  have bsW : bs < W.heap.size := World.block_lt_of_cell? _ _ CAP.cs
  have bhW : bh < W.heap.size := World.block_lt_of_cell? _ _ CAP.ch
  have hh : ((W.alloc (.cells A 28)).alloc (.cells #[p, d1, d2, .int .i64 st, .int .i64 v, .int .i64 0, .int .i64 0, .slice none 0 0, .slice none 0 0, .float .f32 0, .float .f32 0, x, .slice none 0 0, .int .i64 0, .int .i64 0, .bool false] 49)).drew.heap[W.heap.size + 1]? = some (.cells #[p, d1, d2, .int .i64 st, .int .i64 v, .int .i64 0, .int .i64 0, .slice none 0 0, .slice none 0 0, .float .f32 0, .float .f32 0, x, .slice none 0 0, .int .i64 0, .int .i64 0, .bool false] 49 (0, 0)) := by
    have h1 := heap_alloc_new (W.alloc (.cells A 28)) (.cells #[p, d1, d2, .int .i64 st, .int .i64 v, .int .i64 0, .int .i64 0, .slice none 0 0, .slice none 0 0, .float .f32 0, .float .f32 0, x, .slice none 0 0, .int .i64 0, .int .i64 0, .bool false] 49)
    have h2 : (W.alloc (.cells A 28)).heap.size = W.heap.size + 1 := by simp
    rw [h2] at h1
    exact h1
  refine ⟨CAP.later hbel (CAP.hb.trans (hbel.mono CAP.hb.size)), fun j hj => ?_, fun j => frozen_of_row _ _ j _ 49 hh, ?_, ?_, by omega, by omega, v, ?_⟩
  · rw [cell_of_row _ _ j _ 49 (0, 0) hh]
    exact ⟨_, Array.getElem?_eq_getElem (by simpa using hj)⟩
  · rw [cell_of_row _ _ 13 _ 49 (0, 0) hh]; rfl
  · rw [cell_of_row _ _ 14 _ 49 (0, 0) hh]; rfl
  · rw [cell_of_row _ _ 4 _ 49 (0, 0) hh]; rfl

end Go.Proofs.Qxb6602560a
