import Derived.Test.Qxb6604392aPlain
import Derived.OwnWalk
namespace Go.Proofs.Qxb6604392a
open Go.ChangeShapes Go.WideShapes Go.ChangeAt Go.RowKit Go.Maps
set_option linter.unusedVariables false

/-- A line lies in eight cells. -/
structure LineAt (w : World) (b o : Nat) (x : Line) : Prop where
  c0 : w.cell? ⟨b, o, none⟩ = some (.int .i64 x.client)
  c1 : w.cell? ⟨b, o + 1, none⟩ = some (.string x.kind)
  c2 : w.cell? ⟨b, o + 2, none⟩ = some (.string x.key)
  c3 : w.cell? ⟨b, o + 3, none⟩ = some (.string x.val)
  c4 : w.cell? ⟨b, o + 4, none⟩ = some (.bool x.found)
  c5 : w.cell? ⟨b, o + 5, none⟩ = some (.int .i64 x.call)
  c6 : w.cell? ⟨b, o + 6, none⟩ = some (.int .i64 x.ret)
  c7 : w.cell? ⟨b, o + 7, none⟩ = some (.bool x.ok)

theorem LineAt.of {w w' : World} {b o : Nat} {x : Line} (h : LineAt w b o x) (e : ∀ j, o ≤ j → j < o + 8 → w'.cell? ⟨b, j, none⟩ = w.cell? ⟨b, j, none⟩) : LineAt w' b o x :=
  ⟨(e _ (by omega) (by omega)).trans h.c0, (e _ (by omega) (by omega)).trans h.c1, (e _ (by omega) (by omega)).trans h.c2, (e _ (by omega) (by omega)).trans h.c3, (e _ (by omega) (by omega)).trans h.c4, (e _ (by omega) (by omega)).trans h.c5, (e _ (by omega) (by omega)).trans h.c6, (e _ (by omega) (by omega)).trans h.c7⟩

theorem LineAt.later {w w' : World} {b o B : Nat} {x : Line} (h : LineAt w b o x) (hb : Below B w w') (hB : b < B) : LineAt w' b o x :=
  h.of fun j _ _ => hb.cell (p := ⟨b, j, none⟩) hB

/-- The lines of a slice that came in. -/
def Came (w : World) (a : Option Addr) (l : List Line) : Prop :=
  l = [] ∨ ∃ b off, a = some ⟨b, off, none⟩ ∧ b < w.heap.size ∧ ∀ i (h : i < l.length), LineAt w b (off + i * 8) l[i]

/-- A block of the call's own, room for n lines, the first of which are l. -/
structure Hist (w : World) (base g n : Nat) (l : List Line) : Prop where
  lo : base ≤ g
  hi : g < w.heap.size
  ex : ∀ j, j < n * 8 → ∃ v, w.cell? ⟨g, j, none⟩ = some v
  fz : ∀ j, w.frozen? ⟨g, j, none⟩ = false
  at_ : ∀ i (h : i < l.length), LineAt w g (i * 8) l[i]
  len : l.length ≤ n

theorem Hist.later {w w' : World} {base g n B : Nat} {l : List Line} (h : Hist w base g n l) (hb : Below B w w') (hB : g < B) : Hist w' base g n l :=
  ⟨h.lo, Nat.lt_of_lt_of_le h.hi hb.size, fun j hj => by rw [hb.cell (p := ⟨g, j, none⟩) hB]; exact h.ex j hj, fun j => by rw [hb.frozen (p := ⟨g, j, none⟩) hB]; exact h.fz j, fun i hi => (h.at_ i hi).later hb hB, h.len⟩

/-- A line stored into eight cells. -/
def put8 (w : World) (g o : Nat) (x : Line) : World :=
  (((((((w.setCell ⟨g, o, none⟩ (.int .i64 x.client)).setCell ⟨g, o + 1, none⟩ (.string x.kind)).setCell ⟨g, o + 2, none⟩ (.string x.key)).setCell ⟨g, o + 3, none⟩ (.string x.val)).setCell ⟨g, o + 4, none⟩ (.bool x.found)).setCell ⟨g, o + 5, none⟩ (.int .i64 x.call)).setCell ⟨g, o + 6, none⟩ (.int .i64 x.ret)).setCell ⟨g, o + 7, none⟩ (.bool x.ok)

theorem sc_out (W : World) {g o b j : Nat} (v : Value) (h : b ≠ g ∨ j ≠ o) : (W.setCell ⟨g, o, none⟩ v).cell? ⟨b, j, none⟩ = W.cell? ⟨b, j, none⟩ := by
  apply World.cell?_setCell_other
  intro e; injection e with e1 e2; rcases h with h | h
  · exact h e1.symm
  · exact h e2.symm

theorem sc_same (W : World) (g o : Nat) (v u : Value) (h : W.cell? ⟨g, o, none⟩ = some u) : (W.setCell ⟨g, o, none⟩ v).cell? ⟨g, o, none⟩ = some v :=
  World.cell?_setCell_same _ _ _ (by rw [h])

theorem put8_out (w : World) (g o b j : Nat) (x : Line) (h : b ≠ g ∨ j < o ∨ o + 8 ≤ j) : (put8 w g o x).cell? ⟨b, j, none⟩ = w.cell? ⟨b, j, none⟩ := by
  unfold put8
  rw [sc_out _ _ (by omega), sc_out _ _ (by omega), sc_out _ _ (by omega), sc_out _ _ (by omega), sc_out _ _ (by omega), sc_out _ _ (by omega), sc_out _ _ (by omega), sc_out _ _ (by omega)]

theorem put8_frozen (w : World) (g o : Nat) (x : Line) (a : Addr) : (put8 w g o x).frozen? a = w.frozen? a := by
  unfold put8
  simp only [World.frozen?_setCell]

theorem put8_size (w : World) (g o : Nat) (x : Line) : (put8 w g o x).heap.size = w.heap.size := by
  unfold put8
  simp [World.setCell]

theorem below_put8 {B : Nat} {a w : World} (h : Below B a w) {g : Nat} (hg : B ≤ g) (o : Nat) (x : Line) : Below B a (put8 w g o x) := by
  unfold put8
  exact (((((((h.setCell (by exact hg) _).setCell (by exact hg) _).setCell (by exact hg) _).setCell (by exact hg) _).setCell (by exact hg) _).setCell (by exact hg) _).setCell (by exact hg) _).setCell (by exact hg) _

theorem put8_at (w : World) (g o : Nat) (x : Line) (h : ∀ j, o ≤ j → j < o + 8 → ∃ v, w.cell? ⟨g, j, none⟩ = some v) : LineAt (put8 w g o x) g o x := by
  obtain ⟨v0, e0⟩ := h o (by omega) (by omega)
  obtain ⟨v1, e1⟩ := h (o + 1) (by omega) (by omega)
  obtain ⟨v2, e2⟩ := h (o + 2) (by omega) (by omega)
  obtain ⟨v3, e3⟩ := h (o + 3) (by omega) (by omega)
  obtain ⟨v4, e4⟩ := h (o + 4) (by omega) (by omega)
  obtain ⟨v5, e5⟩ := h (o + 5) (by omega) (by omega)
  obtain ⟨v6, e6⟩ := h (o + 6) (by omega) (by omega)
  obtain ⟨v7, e7⟩ := h (o + 7) (by omega) (by omega)
  unfold put8
  constructor
  · rw [sc_out _ _ (by omega), sc_out _ _ (by omega), sc_out _ _ (by omega), sc_out _ _ (by omega), sc_out _ _ (by omega), sc_out _ _ (by omega), sc_out _ _ (by omega)]
    exact sc_same _ _ _ _ _ e0
  · rw [sc_out _ _ (by omega), sc_out _ _ (by omega), sc_out _ _ (by omega), sc_out _ _ (by omega), sc_out _ _ (by omega), sc_out _ _ (by omega)]
    exact sc_same _ _ _ _ v1 (by rw [sc_out _ _ (by omega)]; exact e1)
  · rw [sc_out _ _ (by omega), sc_out _ _ (by omega), sc_out _ _ (by omega), sc_out _ _ (by omega), sc_out _ _ (by omega)]
    exact sc_same _ _ _ _ v2 (by rw [sc_out _ _ (by omega), sc_out _ _ (by omega)]; exact e2)
  · rw [sc_out _ _ (by omega), sc_out _ _ (by omega), sc_out _ _ (by omega), sc_out _ _ (by omega)]
    exact sc_same _ _ _ _ v3 (by rw [sc_out _ _ (by omega), sc_out _ _ (by omega), sc_out _ _ (by omega)]; exact e3)
  · rw [sc_out _ _ (by omega), sc_out _ _ (by omega), sc_out _ _ (by omega)]
    exact sc_same _ _ _ _ v4 (by rw [sc_out _ _ (by omega), sc_out _ _ (by omega), sc_out _ _ (by omega), sc_out _ _ (by omega)]; exact e4)
  · rw [sc_out _ _ (by omega), sc_out _ _ (by omega)]
    exact sc_same _ _ _ _ v5 (by rw [sc_out _ _ (by omega), sc_out _ _ (by omega), sc_out _ _ (by omega), sc_out _ _ (by omega), sc_out _ _ (by omega)]; exact e5)
  · rw [sc_out _ _ (by omega)]
    exact sc_same _ _ _ _ v6 (by rw [sc_out _ _ (by omega), sc_out _ _ (by omega), sc_out _ _ (by omega), sc_out _ _ (by omega), sc_out _ _ (by omega), sc_out _ _ (by omega)]; exact e6)
  · exact sc_same _ _ _ _ v7 (by rw [sc_out _ _ (by omega), sc_out _ _ (by omega), sc_out _ _ (by omega), sc_out _ _ (by omega), sc_out _ _ (by omega), sc_out _ _ (by omega), sc_out _ _ (by omega)]; exact e7)

theorem put8_ex (w : World) (g o : Nat) (x : Line) (j : Nat) (h : ∃ v, w.cell? ⟨g, j, none⟩ = some v) (hx : ∀ j, o ≤ j → j < o + 8 → ∃ v, w.cell? ⟨g, j, none⟩ = some v) : ∃ v, (put8 w g o x).cell? ⟨g, j, none⟩ = some v := by
  by_cases e : j < o ∨ o + 8 ≤ j
  · rw [put8_out _ _ _ _ _ _ (.inr e)]; exact h
  · have L := put8_at w g o x hx
    have : j = o ∨ j = o + 1 ∨ j = o + 2 ∨ j = o + 3 ∨ j = o + 4 ∨ j = o + 5 ∨ j = o + 6 ∨ j = o + 7 := by omega
    rcases this with rfl | rfl | rfl | rfl | rfl | rfl | rfl | rfl
    · exact ⟨_, L.c0⟩
    · exact ⟨_, L.c1⟩
    · exact ⟨_, L.c2⟩
    · exact ⟨_, L.c3⟩
    · exact ⟨_, L.c4⟩
    · exact ⟨_, L.c5⟩
    · exact ⟨_, L.c6⟩
    · exact ⟨_, L.c7⟩

/-- One line more. -/
theorem Hist.push {w : World} {base g n : Nat} {l : List Line} (h : Hist w base g n l) (hl : l.length < n) (k : Nat) (hk : k = l.length) (x : Line) : Hist (put8 w g (k * 8) x) base g n (l ++ [x]) := by
  subst hk
  have hx : ∀ j, l.length * 8 ≤ j → j < l.length * 8 + 8 → ∃ v, w.cell? ⟨g, j, none⟩ = some v := fun j h1 h2 => h.ex j (by omega)
  refine ⟨h.lo, by rw [put8_size]; exact h.hi, fun j hj => put8_ex _ _ _ _ _ (h.ex j hj) hx, fun j => by rw [put8_frozen]; exact h.fz j, fun i hi => ?_, by simp; omega⟩
  by_cases e : i < l.length
  · rw [List.getElem_append_left e]
    exact (h.at_ i e).of fun j h1 h2 => put8_out _ _ _ _ _ _ (.inr (.inl (by omega)))
  · have : i = l.length := by simp at hi; omega
    subst this
    simp only [List.getElem_concat_length]
    exact put8_at _ _ _ _ hx

theorem Try.info30 : (Try.prog.info? 30).map (fun i => (i.zero, i.size, i.bytes)) = some (some (.agg #[.int .i64 0, .string ⟨#[]⟩, .string ⟨#[]⟩, .string ⟨#[]⟩, .bool false, .int .i64 0, .int .i64 0, .bool false]), 8, 88) := by kernel_rfl

set_option maxHeartbeats 1000000 in
set_option maxRecDepth 20000 in
theorem tohist_any (a : Option Addr) (c : Nat) (l : List Line) (w : World) (hn : l.length ≤ 4096) (h : Came w a l) :
    Calls Try.prog 7 #[.slice a l.length c] w fun e w' => e = .returned (.slice (some ⟨w.heap.size, 0, none⟩) l.length l.length) ∧ Below w.heap.size w w' ∧ Hist w' w.heap.size w.heap.size l.length l := by
  obtain ⟨i0, hi, hz0, hz1, hz2⟩ := info_parts Try.info30
  obtain ⟨n, hln⟩ : ∃ n, n = l.length := ⟨_, rfl⟩
  have HC : Hid (Came w a l) := h
  clear h
  go_enter Try.func7, Try.ntmps7
  go_wp2_with (first | (at_make; refine wpList_make_full _ rfl _ _ 24 rfl w.heap.size 30 i0 _ 8 Try.underlying24 hi hz0 hz1 _ _ _ _ l.length rfl rfl (by omega) (by omega) ?c1 ?c2 ?c3 ?_) | go_in)
  case c1 => rw [hz2]; omega
  case c2 => unfold maxLen; omega
  case c3 => exact Nat.le_refl _
  intro w1 hown hgrow
  have hb := (Below.refl w.heap.size w).grown hgrow (Nat.le_refl _) (fun k e => by cases e)
  clear hgrow
  go_wp2
  go_loopw [4] (fun i wr => ∃ k : Nat, k ≤ l.length ∧ i = .int .i64 k ∧ Below w.heap.size w wr ∧ Hist wr w.heap.size w.heap.size l.length (l.take k)) (fun i _ => l.length - (intOf i).toNat)
  case atStart =>
    refine ⟨0, Nat.zero_le _, rfl, hb, Nat.le_refl _, (hown.lt _ rfl).2, fun j hj => ?_, fun j => hown.frozenAt j, fun i h => by simp at h, by simp⟩
    have hl := hown.1
    rw [hown.cellAt j hj]
    exact ⟨_, List.getElem?_eq_getElem (by omega)⟩
  case round =>
    clear hown hb
    obtain ⟨k, hk, rfl, hb, hH⟩ := hrel
    by_cases hlt : k < l.length
    · obtain ⟨b, off, ha, hbw, hat⟩ : ∃ b off, a = some ⟨b, off, none⟩ ∧ b < w.heap.size ∧ ∀ i (h : i < l.length), LineAt w b (off + i * 8) l[i] := by
        rcases HC.out with h | h
        · rw [h] at hlt; simp at hlt
        · exact h
      subst ha
      have hL := (hat k hlt).later hb hbw
      have T := toop_any l[k]
      have HH : Hid (Hist wr w.heap.size w.heap.size l.length (l.take k)) := hH
      have HB : Hid (Below w.heap.size w wr) := hb
      clear hat hH hb HC
      obtain ⟨x, hx⟩ : ∃ x, x = l[k] := ⟨_, rfl⟩
      rw [← hx] at hL T
      have HX : Hid (x = l[k]) := hx
      clear hx
      obtain ⟨x0, x1, x2, x3, x4, x5, x6, x7⟩ := x
      obtain ⟨c0, c1, c2, c3, c4, c5, c6, c7⟩ := hL
      simp only [Line.cells] at c0 c1 c2 c3 c4 c5 c6 c7 T
      go_wp2_with fail
      refine (T _).mono ?_
      rintro e w2 ⟨rfl, hb2⟩
      have hgl := HH.out.hi
      have H2 := HH.out.later hb2 hgl
      have HB2 : Hid (Below w.heap.size w w2) := HB.out.trans (hb2.mono HB.out.size)
      have HH2 : Hid (Hist w2 w.heap.size w.heap.size l.length (l.take k)) := H2
      clear HH HB hb2 T c0 c1 c2 c3 c4 c5 c6 c7
      obtain ⟨_, hi2, hex, hfz, _, _⟩ := H2
      obtain ⟨v0, e0⟩ := hex (k * 8) (by omega)
      obtain ⟨v1, e1⟩ := hex (k * 8 + 1) (by omega)
      obtain ⟨v2, e2⟩ := hex (k * 8 + 2) (by omega)
      obtain ⟨v3, e3⟩ := hex (k * 8 + 3) (by omega)
      obtain ⟨v4, e4⟩ := hex (k * 8 + 4) (by omega)
      obtain ⟨v5, e5⟩ := hex (k * 8 + 5) (by omega)
      obtain ⟨v6, e6⟩ := hex (k * 8 + 6) (by omega)
      obtain ⟨v7, e7⟩ := hex (k * 8 + 7) (by omega)
      clear hex
      go_wp2
      refine ⟨⟨k + 1, by omega, by go_num, below_put8 HB2.out (Nat.le_refl _) (k * 8) ⟨x0, x1, x2, x3, x4, x5, x6, x7⟩, ?_⟩, by simp [intOf]; omega⟩
      rw [List.take_succ_eq_append_getElem hlt, ← HX.out]
      exact HH2.out.push (by simp; omega) k (by simp; omega) ⟨x0, x1, x2, x3, x4, x5, x6, x7⟩
    · have hkm : k = l.length := by omega
      have HH : Hid (Hist wr w.heap.size w.heap.size l.length (l.take k)) := hH
      clear hH
      go_wp2
      go_ret
      refine ⟨rfl, hb, ?_⟩
      have := HH.out
      rwa [hkm, List.take_length] at this
end Go.Proofs.Qxb6604392a
