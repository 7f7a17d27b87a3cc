import Derived.Test.Qxb6602560aTile
namespace Go.Proofs.Qxb6602560a
open Go.ChangeShapes Go.WideShapes Go.ChangeAt Go.RowKit
set_option linter.unusedVariables false

set_option maxRecDepth 100000 in
set_option maxHeartbeats 4000000 in
theorem law_main_t (HS : ScalerSaid) (n h dw dh : Nat) (a2 a6 : Int) (a : Option Addr) (l : List Nat) (c : Nat) (w : World) (hl : l.length ≤ 1048576) (hr : Row w a l) (g1 : 1 ≤ n) (g2 : 1 ≤ h) (g3 : n ≤ 65536) (g4 : h ≤ 65536) (g5 : dw ≤ 65536) (g6 : dh ≤ 65536) (P R : Nat) (hP : dw * dh = P) (hR : (n + h) * (dw + dh) = R) (b1 : P ≤ 1048576) (b2 : R ≤ 1073741824) (ht : 5 ≤ a2 ∧ a2 ≤ 8) :
    Calls Try.prog 5 #[.int .i64 n, .int .i64 h, .int .u16 a2, .slice a l.length c, .int .i64 dw, .int .i64 dh, .int .i64 a6] w fun e w' => e = .returned (.bool true) ∧ Below w.heap.size w w' := by
  have eP : (dw : Int) * (dh : Int) = (P : Int) := by rw [← hP]; exact (Int.natCast_mul dw dh).symm
  have eR : ((n : Int) + (h : Int)) * ((dw : Int) + (dh : Int)) = (R : Int) := by rw [← hR]; push_cast; rfl
  have HC := cloneB_any a c l w (by omega) hr
  clear hP hR hr
  obtain ⟨ln, hln⟩ : ∃ ln, ln = l.length := ⟨_, rfl⟩
  rw [← hln] at HC hl ⊢
  clear hln
  go_enter Try.func5, Try.ntmps5
  go_wp2_with (go_at_call 12; refine (small_any _ _ _ _ _ _ _ _ _ _ hl).mono ?_; rintro e w' ⟨rfl, rfl⟩)
  refine HC.mono ?_
  rintro e w1 ⟨a', c', rfl, _, hb1, _, _, _⟩
  have B1 : Hid (Below w.heap.size w w1) := hb1
  clear hb1 HC
  go_wp2_with fail
  refine (new_any HS n h dw dh a2 a6 a' _ c' w1 g1 g3 g2 g4 g5 g6 dh dw (.inl ⟨ht, rfl, rfl⟩)).mono ?_
  rintro e w2 ⟨s, rfl, hb2, h13, h14, h15 | ⟨h15, gx, gy, h7, h8, h9, h10, lx, ly, hx, hy⟩⟩
  · have B2 : Hid (Below w.heap.size w w2) := B1.out.trans (hb2.mono B1.out.size)
    clear hb2 B1
    go_wp2_with fail
    refine (state_any s 0 0 true w2 h13 h14 h15).mono ?_
    rintro e w3 ⟨rfl, m, rfl⟩
    go_wp2
    go_ret
    exact ⟨rfl, below_drewN B2.out m⟩
  · have B2 : Hid (Below w.heap.size w w2) := B1.out.trans (hb2.mono B1.out.size)
    clear hb2 B1
    obtain ⟨t1, t2⟩ := ht
    have sW2 := World.block_lt_of_cell? _ _ h7
    go_wp2_with fail
    refine (state_any s 0 0 false w2 h13 h14 h15).mono ?_
    rintro e w3 ⟨rfl, m, hw3⟩
    have hb3 : Below w2.heap.size w2 w3 := by rw [hw3]; exact below_drewN (Below.refl _ _) m
    have k7 := (hb3.cell (p := ⟨s, 7, none⟩) sW2).trans h7
    have k8 := (hb3.cell (p := ⟨s, 8, none⟩) sW2).trans h8
    have k9 := (hb3.cell (p := ⟨s, 9, none⟩) sW2).trans h9
    have k10 := (hb3.cell (p := ⟨s, 10, none⟩) sW2).trans h10
    have kx : Hid (∀ i, i < dh → CovAt w3 gx n dh i) := fun i hi => (hx i hi).of (fun j => hb3.cell (p := ⟨gx, j, none⟩) lx)
    have ky : Hid (∀ i, i < dw → CovAt w3 gy h dw i) := fun i hi => (hy i hi).of (fun j => hb3.cell (p := ⟨gy, j, none⟩) ly)
    have B3 : Hid (Below w.heap.size w w3) := B2.out.trans (hb3.mono B2.out.size)
    have lx3 : gx < w3.heap.size := Nat.lt_of_lt_of_le lx hb3.size
    have ly3 : gy < w3.heap.size := Nat.lt_of_lt_of_le ly hb3.size
    have sW3 : s < w3.heap.size := Nat.lt_of_lt_of_le sW2 hb3.size
    clear hx hy h7 h8 h9 h10 h13 h14 h15 hw3 hb3 B2 lx ly sW2
    go_wp2_with fail
    refine (full_any s _ _ w3 k9 k10).mono ?_
    rintro e w4 ⟨rfl, m', hw4⟩
    have hb4 : Below w3.heap.size w3 w4 := by rw [hw4]; exact below_drewN (Below.refl _ _) m'
    have j7 := (hb4.cell (p := ⟨s, 7, none⟩) sW3).trans k7
    have j8 := (hb4.cell (p := ⟨s, 8, none⟩) sW3).trans k8
    have jx : Hid (∀ i, i < dh → CovAt w4 gx n dh i) := fun i hi => (kx.out i hi).of (fun j => hb4.cell (p := ⟨gx, j, none⟩) lx3)
    have jy : Hid (∀ i, i < dw → CovAt w4 gy h dw i) := fun i hi => (ky.out i hi).of (fun j => hb4.cell (p := ⟨gy, j, none⟩) ly3)
    have B4 : Hid (Below w.heap.size w w4) := B3.out.trans (hb4.mono B3.out.size)
    have lx4 : gx < w4.heap.size := Nat.lt_of_lt_of_le lx3 hb4.size
    have ly4 : gy < w4.heap.size := Nat.lt_of_lt_of_le ly3 hb4.size
    have sW4 : s < w4.heap.size := Nat.lt_of_lt_of_le sW3 hb4.size
    clear k7 k8 k9 k10 kx ky hw4 hb4 B3 lx3 ly3 sW3
    go_wp2_with fail
    refine (xs_any s _ _ _ w4 j7).mono ?_
    rintro e w5 ⟨rfl, rfl⟩
    go_wp2_with fail
    refine (hold_any gx n dh w4 g1 g3 (by omega) lx4 jx.out).mono ?_
    rintro e w6 ⟨rfl, hb6⟩
    have i8 := (hb6.cell (p := ⟨s, 8, none⟩) sW4).trans j8
    have iy : Hid (∀ i, i < dw → CovAt w6 gy h dw i) := fun i hi => (jy.out i hi).of (fun j => hb6.cell (p := ⟨gy, j, none⟩) ly4)
    have B6 : Hid (Below w.heap.size w w6) := B4.out.trans (hb6.mono B4.out.size)
    have ly6 : gy < w6.heap.size := Nat.lt_of_lt_of_le ly4 hb6.size
    clear j7 j8 jx jy hb6 B4 lx4 ly4 sW4
    go_wp2_with fail
    refine (ys_any s _ _ _ w6 i8).mono ?_
    rintro e w7 ⟨rfl, rfl⟩
    go_wp2_with fail
    refine (hold_any gy h dw w6 g2 g4 (by omega) ly6 iy.out).mono ?_
    rintro e w8 ⟨rfl, hb8⟩
    have B8 : Hid (Below w.heap.size w w8) := B6.out.trans (hb8.mono B6.out.size)
    clear hb8 iy B6 i8
    go_wp2
    go_ret
    exact ⟨rfl, B8.out⟩

set_option maxRecDepth 100000 in
set_option maxHeartbeats 4000000 in
theorem law_main_p (HS : ScalerSaid) (n h dw dh : Nat) (a2 a6 : Int) (a : Option Addr) (l : List Nat) (c : Nat) (w : World) (hl : l.length ≤ 1048576) (hr : Row w a l) (g1 : 1 ≤ n) (g2 : 1 ≤ h) (g3 : n ≤ 65536) (g4 : h ≤ 65536) (g5 : dw ≤ 65536) (g6 : dh ≤ 65536) (P R : Nat) (hP : dw * dh = P) (hR : (n + h) * (dw + dh) = R) (b1 : P ≤ 1048576) (b2 : R ≤ 1073741824) (ht : ¬ (5 ≤ a2 ∧ a2 ≤ 8)) :
    Calls Try.prog 5 #[.int .i64 n, .int .i64 h, .int .u16 a2, .slice a l.length c, .int .i64 dw, .int .i64 dh, .int .i64 a6] w fun e w' => e = .returned (.bool true) ∧ Below w.heap.size w w' := by
  have eP : (dw : Int) * (dh : Int) = (P : Int) := by rw [← hP]; exact (Int.natCast_mul dw dh).symm
  have eR : ((n : Int) + (h : Int)) * ((dw : Int) + (dh : Int)) = (R : Int) := by rw [← hR]; push_cast; rfl
  have HC := cloneB_any a c l w (by omega) hr
  clear hP hR hr
  obtain ⟨ln, hln⟩ : ∃ ln, ln = l.length := ⟨_, rfl⟩
  rw [← hln] at HC hl ⊢
  clear hln
  go_enter Try.func5, Try.ntmps5
  go_wp2_with (go_at_call 12; refine (small_any _ _ _ _ _ _ _ _ _ _ hl).mono ?_; rintro e w' ⟨rfl, rfl⟩)
  refine HC.mono ?_
  rintro e w1 ⟨a', c', rfl, _, hb1, _, _, _⟩
  have B1 : Hid (Below w.heap.size w w1) := hb1
  clear hb1 HC
  go_wp2_with fail
  refine (new_any HS n h dw dh a2 a6 a' _ c' w1 g1 g3 g2 g4 g5 g6 dw dh (.inr ⟨ht, rfl, rfl⟩)).mono ?_
  rintro e w2 ⟨s, rfl, hb2, h13, h14, h15 | ⟨h15, gx, gy, h7, h8, h9, h10, lx, ly, hx, hy⟩⟩
  · have B2 : Hid (Below w.heap.size w w2) := B1.out.trans (hb2.mono B1.out.size)
    clear hb2 B1
    go_wp2_with fail
    refine (state_any s 0 0 true w2 h13 h14 h15).mono ?_
    rintro e w3 ⟨rfl, m, rfl⟩
    go_wp2
    go_ret
    exact ⟨rfl, below_drewN B2.out m⟩
  · have B2 : Hid (Below w.heap.size w w2) := B1.out.trans (hb2.mono B1.out.size)
    clear hb2 B1
    by_cases t1 : 5 ≤ a2
    · have t2 : 8 < a2 := by omega
      clear ht
      have sW2 := World.block_lt_of_cell? _ _ h7
      go_wp2_with fail
      refine (state_any s 0 0 false w2 h13 h14 h15).mono ?_
      rintro e w3 ⟨rfl, m, hw3⟩
      have hb3 : Below w2.heap.size w2 w3 := by rw [hw3]; exact below_drewN (Below.refl _ _) m
      have k7 := (hb3.cell (p := ⟨s, 7, none⟩) sW2).trans h7
      have k8 := (hb3.cell (p := ⟨s, 8, none⟩) sW2).trans h8
      have k9 := (hb3.cell (p := ⟨s, 9, none⟩) sW2).trans h9
      have k10 := (hb3.cell (p := ⟨s, 10, none⟩) sW2).trans h10
      have kx : Hid (∀ i, i < dw → CovAt w3 gx n dw i) := fun i hi => (hx i hi).of (fun j => hb3.cell (p := ⟨gx, j, none⟩) lx)
      have ky : Hid (∀ i, i < dh → CovAt w3 gy h dh i) := fun i hi => (hy i hi).of (fun j => hb3.cell (p := ⟨gy, j, none⟩) ly)
      have B3 : Hid (Below w.heap.size w w3) := B2.out.trans (hb3.mono B2.out.size)
      have lx3 : gx < w3.heap.size := Nat.lt_of_lt_of_le lx hb3.size
      have ly3 : gy < w3.heap.size := Nat.lt_of_lt_of_le ly hb3.size
      have sW3 : s < w3.heap.size := Nat.lt_of_lt_of_le sW2 hb3.size
      clear hx hy h7 h8 h9 h10 h13 h14 h15 hw3 hb3 B2 lx ly sW2
      go_wp2_with fail
      refine (full_any s _ _ w3 k9 k10).mono ?_
      rintro e w4 ⟨rfl, m', hw4⟩
      have hb4 : Below w3.heap.size w3 w4 := by rw [hw4]; exact below_drewN (Below.refl _ _) m'
      have j7 := (hb4.cell (p := ⟨s, 7, none⟩) sW3).trans k7
      have j8 := (hb4.cell (p := ⟨s, 8, none⟩) sW3).trans k8
      have jx : Hid (∀ i, i < dw → CovAt w4 gx n dw i) := fun i hi => (kx.out i hi).of (fun j => hb4.cell (p := ⟨gx, j, none⟩) lx3)
      have jy : Hid (∀ i, i < dh → CovAt w4 gy h dh i) := fun i hi => (ky.out i hi).of (fun j => hb4.cell (p := ⟨gy, j, none⟩) ly3)
      have B4 : Hid (Below w.heap.size w w4) := B3.out.trans (hb4.mono B3.out.size)
      have lx4 : gx < w4.heap.size := Nat.lt_of_lt_of_le lx3 hb4.size
      have ly4 : gy < w4.heap.size := Nat.lt_of_lt_of_le ly3 hb4.size
      have sW4 : s < w4.heap.size := Nat.lt_of_lt_of_le sW3 hb4.size
      clear k7 k8 k9 k10 kx ky hw4 hb4 B3 lx3 ly3 sW3
      go_wp2_with fail
      refine (xs_any s _ _ _ w4 j7).mono ?_
      rintro e w5 ⟨rfl, rfl⟩
      go_wp2_with fail
      refine (hold_any gx n dw w4 g1 g3 (by omega) lx4 jx.out).mono ?_
      rintro e w6 ⟨rfl, hb6⟩
      have i8 := (hb6.cell (p := ⟨s, 8, none⟩) sW4).trans j8
      have iy : Hid (∀ i, i < dh → CovAt w6 gy h dh i) := fun i hi => (jy.out i hi).of (fun j => hb6.cell (p := ⟨gy, j, none⟩) ly4)
      have B6 : Hid (Below w.heap.size w w6) := B4.out.trans (hb6.mono B4.out.size)
      have ly6 : gy < w6.heap.size := Nat.lt_of_lt_of_le ly4 hb6.size
      clear j7 j8 jx jy hb6 B4 lx4 ly4 sW4
      go_wp2_with fail
      refine (ys_any s _ _ _ w6 i8).mono ?_
      rintro e w7 ⟨rfl, rfl⟩
      go_wp2_with fail
      refine (hold_any gy h dh w6 g2 g4 (by omega) ly6 iy.out).mono ?_
      rintro e w8 ⟨rfl, hb8⟩
      have B8 : Hid (Below w.heap.size w w8) := B6.out.trans (hb8.mono B6.out.size)
      clear hb8 iy B6 i8
      go_wp2
      go_ret
      exact ⟨rfl, B8.out⟩
    · have t2 : a2 < 5 := by omega
      have t3 : decide (5 ≤ a2) = false := by simp; omega
      clear ht t1
      have sW2 := World.block_lt_of_cell? _ _ h7
      go_wp2_with fail
      refine (state_any s 0 0 false w2 h13 h14 h15).mono ?_
      rintro e w3 ⟨rfl, m, hw3⟩
      have hb3 : Below w2.heap.size w2 w3 := by rw [hw3]; exact below_drewN (Below.refl _ _) m
      have k7 := (hb3.cell (p := ⟨s, 7, none⟩) sW2).trans h7
      have k8 := (hb3.cell (p := ⟨s, 8, none⟩) sW2).trans h8
      have k9 := (hb3.cell (p := ⟨s, 9, none⟩) sW2).trans h9
      have k10 := (hb3.cell (p := ⟨s, 10, none⟩) sW2).trans h10
      have kx : Hid (∀ i, i < dw → CovAt w3 gx n dw i) := fun i hi => (hx i hi).of (fun j => hb3.cell (p := ⟨gx, j, none⟩) lx)
      have ky : Hid (∀ i, i < dh → CovAt w3 gy h dh i) := fun i hi => (hy i hi).of (fun j => hb3.cell (p := ⟨gy, j, none⟩) ly)
      have B3 : Hid (Below w.heap.size w w3) := B2.out.trans (hb3.mono B2.out.size)
      have lx3 : gx < w3.heap.size := Nat.lt_of_lt_of_le lx hb3.size
      have ly3 : gy < w3.heap.size := Nat.lt_of_lt_of_le ly hb3.size
      have sW3 : s < w3.heap.size := Nat.lt_of_lt_of_le sW2 hb3.size
      clear hx hy h7 h8 h9 h10 h13 h14 h15 hw3 hb3 B2 lx ly sW2
      go_wp2_with fail
      refine (full_any s _ _ w3 k9 k10).mono ?_
      rintro e w4 ⟨rfl, m', hw4⟩
      have hb4 : Below w3.heap.size w3 w4 := by rw [hw4]; exact below_drewN (Below.refl _ _) m'
      have j7 := (hb4.cell (p := ⟨s, 7, none⟩) sW3).trans k7
      have j8 := (hb4.cell (p := ⟨s, 8, none⟩) sW3).trans k8
      have jx : Hid (∀ i, i < dw → CovAt w4 gx n dw i) := fun i hi => (kx.out i hi).of (fun j => hb4.cell (p := ⟨gx, j, none⟩) lx3)
      have jy : Hid (∀ i, i < dh → CovAt w4 gy h dh i) := fun i hi => (ky.out i hi).of (fun j => hb4.cell (p := ⟨gy, j, none⟩) ly3)
      have B4 : Hid (Below w.heap.size w w4) := B3.out.trans (hb4.mono B3.out.size)
      have lx4 : gx < w4.heap.size := Nat.lt_of_lt_of_le lx3 hb4.size
      have ly4 : gy < w4.heap.size := Nat.lt_of_lt_of_le ly3 hb4.size
      have sW4 : s < w4.heap.size := Nat.lt_of_lt_of_le sW3 hb4.size
      clear k7 k8 k9 k10 kx ky hw4 hb4 B3 lx3 ly3 sW3
      go_wp2_with fail
      refine (xs_any s _ _ _ w4 j7).mono ?_
      rintro e w5 ⟨rfl, rfl⟩
      go_wp2_with fail
      refine (hold_any gx n dw w4 g1 g3 (by omega) lx4 jx.out).mono ?_
      rintro e w6 ⟨rfl, hb6⟩
      have i8 := (hb6.cell (p := ⟨s, 8, none⟩) sW4).trans j8
      have iy : Hid (∀ i, i < dh → CovAt w6 gy h dh i) := fun i hi => (jy.out i hi).of (fun j => hb6.cell (p := ⟨gy, j, none⟩) ly4)
      have B6 : Hid (Below w.heap.size w w6) := B4.out.trans (hb6.mono B4.out.size)
      have ly6 : gy < w6.heap.size := Nat.lt_of_lt_of_le ly4 hb6.size
      clear j7 j8 jx jy hb6 B4 lx4 ly4 sW4
      go_wp2_with fail
      refine (ys_any s _ _ _ w6 i8).mono ?_
      rintro e w7 ⟨rfl, rfl⟩
      go_wp2_with fail
      refine (hold_any gy h dh w6 g2 g4 (by omega) ly6 iy.out).mono ?_
      rintro e w8 ⟨rfl, hb8⟩
      have B8 : Hid (Below w.heap.size w w8) := B6.out.trans (hb8.mono B6.out.size)
      clear hb8 iy B6 i8
      go_wp2
      go_ret
      exact ⟨rfl, B8.out⟩
end Go.Proofs.Qxb6602560a
