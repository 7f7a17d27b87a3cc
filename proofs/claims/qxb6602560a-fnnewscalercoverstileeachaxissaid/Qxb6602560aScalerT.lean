import Derived.Test.Qxb6602560aScalerBase
namespace Go.Proofs.Qxb6602560a
open Go.ChangeShapes Go.WideShapes Go.ChangeAt Go.RowKit
set_option linter.unusedVariables false
attribute [local go_sem] run_store_float

set_option maxRecDepth 100000 in
set_option maxHeartbeats 16000000 in
theorem scaler_t (n h dw dh : Nat) (o st : Int) (ap : Option Addr) (lp cp : Nat) (w : World) (hn1 : 1 ≤ n) (hn : n ≤ 65536) (hh1 : 1 ≤ h) (hh : h ≤ 65536) (hdw : dw ≤ 65536) (hdh : dh ≤ 65536) (ht : 5 ≤ o ∧ o ≤ 8) :
    Calls Try.prog 21 #[.int .i64 n, .int .i64 h, .int .u16 o, .agg #[.slice ap lp cp, .int .i64 dw, .int .i64 dh, .int .i64 st]] w fun e w' => ∃ s, e = .returned (.pointer (some ⟨s, 0, none⟩)) ∧ Made w n h dh dw s w' := by
  obtain ⟨i0, hi, hz0, hz1, hz2⟩ := info_parts Try.info28'
  have hd : decide (5 ≤ o ∧ o ≤ 8) = true := by simp; omega
  have T := turns_any o
  rw [hd] at T
  have hmk := fun W => run_make (P := Try.prog) W 22 28 i0 (.float .f32 0) Try.underlying22 hi hz0 .i64 .i64 (dh : Int) (dh : Int) (by omega) (Int.le_refl _) (by rw [hz2]; omega) (by omega)
  simp only [Int.toNat_natCast, hz1] at hmk
  go_enter Try.func21, Try.ntmps21
  go_upto_region 1 with fail
  go_cut [9, 10] (fun s9 s10 wx => ∃ bs bh, s9 = .pointer (some ⟨bs, 0, none⟩) ∧ s10 = .pointer (some ⟨bh, 0, none⟩) ∧ Cap w w.heap.size bs bh (w.heap.size + 1) o st dw dh (.slice ap lp cp) (.int .i64 dw) (.int .i64 dh) wx)
  case first =>
    go_region
    all_goals
      go_wp2_with fail
      go_meet
      refine ⟨_, _, rfl, rfl, ?_⟩
      have hB : ∀ a b c d : Obj, Below w.heap.size w ((((w.alloc a).alloc b).alloc c).alloc d) := fun a b c d => ((((Below.refl _ _).alloc (Nat.le_refl _) _).alloc (by simp) _).alloc (by simp; omega) _).alloc (by simp; omega) _
      exact ⟨by go_simp, by go_simp, by go_simp, by go_simp, by go_simp, by go_simp, by go_simp, (hB _ _ _ _).drew, by omega, by omega, by omega, by go_simp, by go_simp⟩
  case rest =>
  obtain ⟨bs, bh, rfl, rfl, hcap⟩ := hcut
  have hcap' := hcap
  obtain ⟨hco, hcs, hch, hc0, hc1, hc2, hc3, hB, hlos, hloh, hne, hfs, hfh⟩ := hcap'
  have hne2 : bh ≠ bs := fun e => hne e.symm
  go_upto_region 5 with (go_at_call 23; refine (T _).mono ?_; rintro e w' ⟨rfl, rfl⟩)
  have CAP := hcap.swap
  obtain ⟨W, hW⟩ : ∃ W, W = (wc.setCell ⟨bs, 0, none⟩ (.int .i64 (dh : Int))).setCell ⟨bh, 0, none⟩ (.int .i64 (dw : Int)) := ⟨_, rfl⟩
  rw [← hW] at CAP ⊢
  clear hW hcap hco hcs hch hc0 hc1 hc2 hc3 hB hfs hfh T
  have bsW : bs < W.heap.size := World.block_lt_of_cell? _ _ CAP.cs
  have bhW : bh < W.heap.size := World.block_lt_of_cell? _ _ CAP.ch
  have boW : w.heap.size < W.heap.size := World.block_lt_of_cell? _ _ CAP.co
  have bdW : w.heap.size + 1 < W.heap.size := World.block_lt_of_cell? _ _ CAP.c3
  have CAPH : Hid (Cap w w.heap.size bs bh (w.heap.size + 1) o st dh dw (.slice ap lp cp) (.int .i64 dw) (.int .i64 dh) W) := CAP
  obtain ⟨hco, hcs, hch, hc0, hc1, hc2, hc3, hB, _, _, _, _, _⟩ := CAP
  go_cut [12] (fun s12 wx => ∃ s, s12 = .pointer (some ⟨s, 0, none⟩) ∧ Scl w s bs bh o st dh dw (.slice ap lp cp) (.int .i64 dw) (.int .i64 dh) wx)
  case first =>
    go_region_with (go_at_call 24; refine (offset_any 0 0 o dh dw st w.heap.size bs bh (w.heap.size + 1) _ (by go_simp) (by go_simp) (by go_simp) (by go_simp)).mono ?_; rintro e w' ⟨v, rfl, rfl⟩)
    all_goals
      go_wp2_with fail
      go_meet
      exact ⟨_, rfl, Scl.new CAPH.out _ _ _⟩
  case rest =>
  obtain ⟨s, rfl, hS⟩ := hcut
  clear CAPH hco hcs hch hc0 hc1 hc2 hc3 hB bsW bhW boW bdW
  go_upto_region 6 with fail
  have HS : Hid (Scl w s bs bh o st dh dw (.slice ap lp cp) (.int .i64 dw) (.int .i64 dh) wc) := hS
  have wcS : s < wc.heap.size := World.block_lt_of_cell? _ _ hS.c13
  obtain ⟨⟨hco, hcs, hch, hc0, hc1, hc2, hc3, hB, hlos', hloh', hne', _, _⟩, hex, hfz, h13, h14, hs1, hs2, ⟨og, hog⟩⟩ := hS
  obtain ⟨v5, h5⟩ := hex 5 (by omega)
  obtain ⟨v6, h6⟩ := hex 6 (by omega)
  clear hex
  go_cut [] (fun wx => Scl w s bs bh o st dh dw (.slice ap lp cp) (.int .i64 dw) (.int .i64 dh) wx)
  case first =>
    go_region_with (go_at_call 24; refine (offset_any _ _ o dh dw st w.heap.size bs bh (w.heap.size + 1) _ (by first | exact hco | go_simp) (by first | exact hcs | go_simp) (by first | exact hch | go_simp) (by first | exact hc3 | go_simp)).mono ?_; rintro e w' ⟨v, rfl, rfl⟩)
    all_goals
      go_wp2_with fail
      go_meet
      exact ((HS.out.set 5 (by omega) (by omega) (by omega) (by omega) _).set 6 (by omega) (by omega) (by omega) (by omega) _).drew
  case rest =>
  clear HS hco hcs hch hc0 hc1 hc2 hc3 hB hfz h13 h14 hog h5 h6 wcS
  have HS : Hid (Scl w s bs bh o st dh dw (.slice ap lp cp) (.int .i64 dw) (.int .i64 dh) wc) := hcut
  have hS := hcut
  clear hcut
  have hsz := World.block_lt_of_cell? _ _ hS.c13
  obtain ⟨⟨hco, hcs, hch, hc0, hc1, hc2, hc3, hB, _, _, _, _, _⟩, hex, hfz, h13, h14, _, _, _⟩ := hS
  obtain ⟨v15, h15⟩ := hex 15 (by omega)
  have hsl : w.heap.size ≤ s := by omega
  by_cases hsame : n = dh ∧ h = dw
  · obtain ⟨hs1', hs2'⟩ := hsame
    have b1 : ((n : Int) == (dh : Int)) = true := beq_iff_eq.2 (by omega)
    have b2 : ((h : Int) == (dw : Int)) = true := beq_iff_eq.2 (by omega)
    have HA : Hid (n = dh) := hs1'
    have HA2 : Hid (h = dw) := hs2'
    clear hs1' hs2' hex
    go_wp2
    go_ret
    refine ⟨s, rfl, HS.out.cap.hb.setCell (by exact hsl) _, ?_, ?_, .inl ?_⟩
    · rw [sc_other _ _ _ _ _ (by omega)]; exact h13
    · rw [sc_other _ _ _ _ _ (by omega)]; exact h14
    · exact sc_same _ _ _ _ _ h15
  · have b0 : (((n : Int) == (dh : Int)) && ((h : Int) == (dw : Int))) = false := by
      simp; omega
    have HNS : Hid (¬ (n = dh ∧ h = dw)) := hsame
    clear hsame hex
    have hstep : ∃ q : Bool, ((n : Int) == (dh : Int)) = q := ⟨_, rfl⟩
    obtain ⟨q, hq⟩ := hstep
    cases q
    · have hrest := hq
      clear b0
      go_wp2_with fail
      have S0 := HS.out.set 15 (by omega) (by omega) (by omega) (by omega) (.bool false)
      have f0 : (wc.setCell ⟨s, 15, none⟩ (.bool false)).cell? ⟨s, 15, none⟩ = some (.bool false) := sc_same _ _ _ _ _ h15
      clear HS hco hcs hch hc0 hc1 hc2 hc3 hB hfz h13 h14 h15 hsz HNS
      generalize wc.setCell ⟨s, 15, none⟩ (.bool false) = W0 at S0 f0 ⊢
      have sW0 := World.block_lt_of_cell? _ _ f0
      have bW0 := World.block_lt_of_cell? _ _ S0.cap.cs
      refine (covers_any n dh W0 hn hn1 (by omega)).mono ?_
      rintro e w1 ⟨rfl, hb1, hl1, hx⟩
      have S1 := S0.later hb1
      have f1 : w1.cell? ⟨s, 15, none⟩ = some (.bool false) := (hb1.cell (p := ⟨s, 15, none⟩) sW0).trans f0
      have gxB : bs < W0.heap.size ∧ s < W0.heap.size ∧ w.heap.size ≤ W0.heap.size := ⟨bW0, sW0, S0.cap.hb.size⟩
      clear S0 f0 hb1 sW0 bW0
      generalize W0.heap.size = gx at hl1 hx gxB ⊢
      have HX : Hid (∀ i, i < dh → CovAt w1 gx n dh i) := hx
      have HS1 : Hid (Scl w s bs bh o st dh dw (.slice ap lp cp) (.int .i64 dw) (.int .i64 dh) w1) := S1
      clear hx
      obtain ⟨⟨_, hcs, hch, _, _, _, _, _, _, _, _, _, _⟩, hex, hfz, _, _, _, _, _⟩ := S1
      obtain ⟨v7, h7⟩ := hex 7 (by omega)
      obtain ⟨v9, h9⟩ := hex 9 (by omega)
      clear hex
      obtain ⟨gx0, gx1, gx2⟩ := gxB
      go_wp2_with fail
      have S2 := (HS1.out.set 7 (by omega) (by omega) (by omega) (by omega) (.slice (some ⟨gx, 0, none⟩) dh dh)).set 9 (by omega) (by omega) (by omega) (by omega) (.float .f32 (fdiv (f32 dh) (f32 n)))
      have F2 : ((w1.setCell ⟨s, 7, none⟩ (.slice (some ⟨gx, 0, none⟩) dh dh)).setCell ⟨s, 9, none⟩ (.float .f32 (fdiv (f32 dh) (f32 n)))).cell? ⟨s, 7, none⟩ = some (.slice (some ⟨gx, 0, none⟩) dh dh) ∧
          ((w1.setCell ⟨s, 7, none⟩ (.slice (some ⟨gx, 0, none⟩) dh dh)).setCell ⟨s, 9, none⟩ (.float .f32 (fdiv (f32 dh) (f32 n)))).cell? ⟨s, 9, none⟩ = some (.float .f32 (fdiv (f32 dh) (f32 n))) ∧
          ((w1.setCell ⟨s, 7, none⟩ (.slice (some ⟨gx, 0, none⟩) dh dh)).setCell ⟨s, 9, none⟩ (.float .f32 (fdiv (f32 dh) (f32 n)))).cell? ⟨s, 15, none⟩ = some (.bool false) ∧
          (∀ i, i < dh → CovAt ((w1.setCell ⟨s, 7, none⟩ (.slice (some ⟨gx, 0, none⟩) dh dh)).setCell ⟨s, 9, none⟩ (.float .f32 (fdiv (f32 dh) (f32 n)))) gx n dh i) ∧
          gx < ((w1.setCell ⟨s, 7, none⟩ (.slice (some ⟨gx, 0, none⟩) dh dh)).setCell ⟨s, 9, none⟩ (.float .f32 (fdiv (f32 dh) (f32 n)))).heap.size := by
        refine ⟨?_, ?_, ?_, fun i hi => (HX.out i hi).of (fun j => ?_), by simpa using hl1⟩
        · rw [sc_other _ _ _ _ _ (by omega)]; exact sc_same _ _ _ _ _ h7
        · exact sc_same _ _ _ _ v9 (by rw [sc_other _ _ _ _ _ (by omega)]; exact h9)
        · rw [sc_other _ _ _ _ _ (by omega), sc_other _ _ _ _ _ (by omega)]; exact f1
        · rw [sc_block _ _ _ _ (by omega), sc_block _ _ _ _ (by omega)]
      clear HS1 HX hcs hch hfz h7 h9 f1 hl1
      generalize (w1.setCell ⟨s, 7, none⟩ (.slice (some ⟨gx, 0, none⟩) dh dh)).setCell ⟨s, 9, none⟩ (.float .f32 (fdiv (f32 dh) (f32 n))) = W2 at S2 F2 ⊢
      obtain ⟨k7, k9, k15, kx, gxW⟩ := F2
      refine (covers_any h dw W2 hh hh1 (by omega)).mono ?_
      rintro e w3 ⟨rfl, hb3, hl3, hy⟩
      have S3 := S2.later hb3
      have sW2 := World.block_lt_of_cell? _ _ k7
      have F3 : w3.cell? ⟨s, 7, none⟩ = some (.slice (some ⟨gx, 0, none⟩) dh dh) ∧ w3.cell? ⟨s, 9, none⟩ = some (.float .f32 (fdiv (f32 dh) (f32 n))) ∧ w3.cell? ⟨s, 15, none⟩ = some (.bool false) ∧ (∀ i, i < dh → CovAt w3 gx n dh i) :=
        ⟨(hb3.cell (p := ⟨s, 7, none⟩) sW2).trans k7, (hb3.cell (p := ⟨s, 9, none⟩) sW2).trans k9, (hb3.cell (p := ⟨s, 15, none⟩) sW2).trans k15, fun i hi => (kx i hi).of (fun j => hb3.cell (p := ⟨gx, j, none⟩) gxW)⟩
      clear S2 hb3 k7 k9 k15 kx
      generalize W2.heap.size = gy at hl3 hy gxW sW2 ⊢
      have HY : Hid (∀ i, i < dw → CovAt w3 gy h dw i) := hy
      have HS3 : Hid (Scl w s bs bh o st dh dw (.slice ap lp cp) (.int .i64 dw) (.int .i64 dh) w3) := S3
      have HF3 : Hid (w3.cell? ⟨s, 7, none⟩ = some (.slice (some ⟨gx, 0, none⟩) dh dh) ∧ w3.cell? ⟨s, 9, none⟩ = some (.float .f32 (fdiv (f32 dh) (f32 n))) ∧ w3.cell? ⟨s, 15, none⟩ = some (.bool false) ∧ (∀ i, i < dh → CovAt w3 gx n dh i)) := F3
      clear hy F3
      obtain ⟨⟨_, hcs, hch, _, _, _, _, _, _, _, _, _, _⟩, hex, hfz, _, _, _, _, _⟩ := S3
      obtain ⟨v8, h8⟩ := hex 8 (by omega)
      obtain ⟨v10, h10⟩ := hex 10 (by omega)
      obtain ⟨v12, h12⟩ := hex 12 (by omega)
      clear hex
      go_upto_region 12 with fail
      have S4 := (HS3.out.set 8 (by omega) (by omega) (by omega) (by omega) (.slice (some ⟨gy, 0, none⟩) dw dw)).set 10 (by omega) (by omega) (by omega) (by omega) (.float .f32 (fdiv (f32 dw) (f32 h)))
      have F4 : ((w3.setCell ⟨s, 8, none⟩ (.slice (some ⟨gy, 0, none⟩) dw dw)).setCell ⟨s, 10, none⟩ (.float .f32 (fdiv (f32 dw) (f32 h)))).cell? ⟨s, 8, none⟩ = some (.slice (some ⟨gy, 0, none⟩) dw dw) ∧
          ((w3.setCell ⟨s, 8, none⟩ (.slice (some ⟨gy, 0, none⟩) dw dw)).setCell ⟨s, 10, none⟩ (.float .f32 (fdiv (f32 dw) (f32 h)))).cell? ⟨s, 10, none⟩ = some (.float .f32 (fdiv (f32 dw) (f32 h))) ∧
          ((w3.setCell ⟨s, 8, none⟩ (.slice (some ⟨gy, 0, none⟩) dw dw)).setCell ⟨s, 10, none⟩ (.float .f32 (fdiv (f32 dw) (f32 h)))).cell? ⟨s, 7, none⟩ = some (.slice (some ⟨gx, 0, none⟩) dh dh) ∧
          ((w3.setCell ⟨s, 8, none⟩ (.slice (some ⟨gy, 0, none⟩) dw dw)).setCell ⟨s, 10, none⟩ (.float .f32 (fdiv (f32 dw) (f32 h)))).cell? ⟨s, 9, none⟩ = some (.float .f32 (fdiv (f32 dh) (f32 n))) ∧
          ((w3.setCell ⟨s, 8, none⟩ (.slice (some ⟨gy, 0, none⟩) dw dw)).setCell ⟨s, 10, none⟩ (.float .f32 (fdiv (f32 dw) (f32 h)))).cell? ⟨s, 15, none⟩ = some (.bool false) ∧
          (∀ i, i < dh → CovAt ((w3.setCell ⟨s, 8, none⟩ (.slice (some ⟨gy, 0, none⟩) dw dw)).setCell ⟨s, 10, none⟩ (.float .f32 (fdiv (f32 dw) (f32 h)))) gx n dh i) ∧ (∀ i, i < dw → CovAt ((w3.setCell ⟨s, 8, none⟩ (.slice (some ⟨gy, 0, none⟩) dw dw)).setCell ⟨s, 10, none⟩ (.float .f32 (fdiv (f32 dw) (f32 h)))) gy h dw i) ∧ gy < ((w3.setCell ⟨s, 8, none⟩ (.slice (some ⟨gy, 0, none⟩) dw dw)).setCell ⟨s, 10, none⟩ (.float .f32 (fdiv (f32 dw) (f32 h)))).heap.size := by
        obtain ⟨k7, k9, k15, kx⟩ := HF3.out
        refine ⟨?_, ?_, ?_, ?_, ?_, fun i hi => (kx i hi).of (fun j => ?_), fun i hi => (HY.out i hi).of (fun j => ?_), by simpa using hl3⟩
        · rw [sc_other _ _ _ _ _ (by omega)]; exact sc_same _ _ _ _ _ h8
        · exact sc_same _ _ _ _ v10 (by rw [sc_other _ _ _ _ _ (by omega)]; exact h10)
        · rw [sc_other _ _ _ _ _ (by omega), sc_other _ _ _ _ _ (by omega)]; exact k7
        · rw [sc_other _ _ _ _ _ (by omega), sc_other _ _ _ _ _ (by omega)]; exact k9
        · rw [sc_other _ _ _ _ _ (by omega), sc_other _ _ _ _ _ (by omega)]; exact k15
        · rw [sc_block _ _ _ _ (by omega), sc_block _ _ _ _ (by omega)]
        · rw [sc_block _ _ _ _ (by omega), sc_block _ _ _ _ (by omega)]
      have gxy : gx < gy ∧ s < gy ∧ bs < gy := ⟨gxW, sW2, by omega⟩
      clear HS3 HY HF3 hcs hch hfz h8 h10 h12 hl3 gxW sW2
      generalize ((w3.setCell ⟨s, 8, none⟩ (.slice (some ⟨gy, 0, none⟩) dw dw)).setCell ⟨s, 10, none⟩ (.float .f32 (fdiv (f32 dw) (f32 h)))) = W4 at S4 F4 ⊢
      have HF4 : Hid _ := F4
      have HS4 : Hid (Scl w s bs bh o st dh dw (.slice ap lp cp) (.int .i64 dw) (.int .i64 dh) W4) := S4
      have gyW : gy < W4.heap.size := F4.2.2.2.2.2.2.2
      clear F4
      obtain ⟨⟨_, hcs, hch, _, _, _, _, _, _, _, _, _, _⟩, hex, hfz, _, _, _, _, _⟩ := S4
      obtain ⟨v12, h12⟩ := hex 12 (by omega)
      clear hex
      obtain ⟨gxy, sgy, bsgy⟩ := gxy
      obtain ⟨i1, hi1, hy0, hy1, hy2⟩ := info_parts Try.info22'
      obtain ⟨L, hL⟩ : ∃ L : Nat, L = (dw + h - 1) / h + 2 := ⟨_, rfl⟩
      have hLi : Int.tdiv ((dw : Int) + (h : Int) - 1) (h : Int) + 2 = (L : Int) := by
        have e1 : ((dw : Int) + (h : Int) - 1) = ((dw + h - 1 : Nat) : Int) := by omega
        rw [e1, ← Int.ofNat_tdiv, hL]; push_cast; rfl
      have hL1 : L ≤ 200000 := by
        have := Nat.div_le_self (dw + h - 1) h
        omega
      clear hL
      go_wp2_with (first | (at_make; refine wpList_make_full _ rfl _ _ 47 rfl W4.heap.size 22 i1 _ 1 Try.underlying47 hi1 hy0 hy1 _ _ _ _ L rfl rfl (by omega) (by omega) ?c1 ?c2 ?c3 ?_) | go_in)
      case c1 => rw [hy2]; omega
      case c2 => unfold maxLen; omega
      case c3 => exact Nat.le_refl _
      intro w5 hown hgrow
      have hb5 := (Below.refl W4.heap.size W4).grown hgrow (Nat.le_refl _) (fun k e => by cases e)
      clear hgrow hLi hcs hch hfz h12
      have HO : Hid ((∀ j, j < L → ∃ v, w5.cell? ⟨W4.heap.size, j, none⟩ = some v) ∧ (∀ j, w5.frozen? ⟨W4.heap.size, j, none⟩ = false) ∧ W4.heap.size < w5.heap.size) := by
        refine ⟨fun j hj => ?_, fun j => hown.frozenAt j, (hown.lt _ rfl).2⟩
        have hl := hown.1
        rw [hown.cellAt j (by omega)]
        exact ⟨_, List.getElem?_eq_getElem (by omega)⟩
      clear hown
      have S5 := HS4.out.later hb5
      have HS5 : Hid (Scl w s bs bh o st dh dw (.slice ap lp cp) (.int .i64 dw) (.int .i64 dh) w5) := S5
      have F5 : w5.cell? ⟨s, 8, none⟩ = some (.slice (some ⟨gy, 0, none⟩) dw dw) ∧
          w5.cell? ⟨s, 10, none⟩ = some (.float .f32 (fdiv (f32 dw) (f32 h))) ∧
          w5.cell? ⟨s, 7, none⟩ = some (.slice (some ⟨gx, 0, none⟩) dh dh) ∧
          w5.cell? ⟨s, 9, none⟩ = some (.float .f32 (fdiv (f32 dh) (f32 n))) ∧
          w5.cell? ⟨s, 15, none⟩ = some (.bool false) ∧
          (∀ i, i < dh → CovAt w5 gx n dh i) ∧ (∀ i, i < dw → CovAt w5 gy h dw i) := by
        obtain ⟨k8, k10, k7, k9, k15, kx, ky, _⟩ := HF4.out
        have hc : ∀ b x, b ≤ gy → w5.cell? ⟨b, x, none⟩ = W4.cell? ⟨b, x, none⟩ := fun b x hb => hb5.cell (p := ⟨b, x, none⟩) (Nat.lt_of_le_of_lt hb gyW)
        exact ⟨(hc _ _ (by omega)).trans k8, (hc _ _ (by omega)).trans k10, (hc _ _ (by omega)).trans k7, (hc _ _ (by omega)).trans k9, (hc _ _ (by omega)).trans k15,
          fun i hi => (kx i hi).of (fun j => hc _ _ (by omega)), fun i hi => (ky i hi).of (fun j => hc _ _ (by omega))⟩
      have HF5 : Hid _ := F5
      have gsw : w.heap.size ≤ W4.heap.size := HS4.out.cap.hb.size
      clear F5 HF4 HS4 hb5
      generalize W4.heap.size = gs at HO gyW gsw ⊢
      obtain ⟨⟨_, hcs, hch, _, _, _, _, _, _, _, _, _, _⟩, hex, hfz, _, _, _, _, _⟩ := S5
      obtain ⟨v12, h12⟩ := hex 12 (by omega)
      clear hex
      go_wp2
      go_loopw [106] (fun i wr => ∃ k : Nat, k ≤ L ∧ i = .int .i64 k ∧ Fin w s gx gy gs bs n h dh dw L wr) (fun i _ => L - (intOf i).toNat)
      case atStart =>
        obtain ⟨k8, k10, k7, k9, k15, kx, ky⟩ := HF5.out
        obtain ⟨og1, og2, og3⟩ := HO.out
        have S6 := HS5.out.set 12 (by omega) (by omega) (by omega) (by omega) (.slice (some ⟨gs, 0, none⟩) L L)
        refine ⟨0, Nat.zero_le _, rfl, S6.cap.hb, ?_, ?_, ?_, ?_, sc_same _ _ _ _ _ h12, S6.c13, S6.c14, ?_, S6.cap.cs, fun i hi => (kx i hi).of (fun j => ?_), fun i hi => (ky i hi).of (fun j => ?_), fun j hj => ?_, fun j => ?_, by omega, by omega, by omega, by omega, gsw, by simpa [World.setCell] using og3⟩
        · rw [sc_other _ _ _ _ _ (by omega)]; exact k7
        · rw [sc_other _ _ _ _ _ (by omega)]; exact k8
        · rw [sc_other _ _ _ _ _ (by omega)]; exact k9
        · rw [sc_other _ _ _ _ _ (by omega)]; exact k10
        · rw [sc_other _ _ _ _ _ (by omega)]; exact k15
        · rw [sc_block _ _ _ _ (by omega)]
        · rw [sc_block _ _ _ _ (by omega)]
        · rw [sc_block _ _ _ _ (by omega)]; exact og1 j hj
        · rw [World.frozen?_setCell]; exact og2 j
      case round =>
        clear HO HF5 HS5 hcs hch hfz h12
        obtain ⟨k, hk, rfl, hrel⟩ := hrel
        have HF : Hid (Fin w s gx gy gs bs n h dh dw L wr) := hrel
        obtain ⟨fb, f7, f8, f9, f10, f12, f13, f14, f15, fcs, fx, fy, gex, gfz, _, _, _, _, _, gsW⟩ := hrel
        by_cases hlt : k < L
        · obtain ⟨vk, hvk⟩ := gex k hlt
          clear gex fx fy
          have sW : s < wr.heap.size := by omega
          have bW : bs < wr.heap.size := by omega
          go_upto_region 16 with fail
          go_region
          all_goals
            go_wp2
            go_roundw
            case rel => exact ⟨k + 1, by omega, by go_num, HF.out.step _ _ _⟩
            case measure => simp [intOf]; omega
        · have hkm : k = L := by omega
          clear gex fx fy
          subst hkm
          go_wp2
          go_ret
          have F := HF.out
          have l3 := F.l3
          have l6 := F.l6
          exact ⟨s, rfl, F.hb, F.c13, F.c14, .inr ⟨F.c15, gx, gy, F.c7, F.c8, F.c9, F.c10, by omega, by omega, F.hx, F.hy⟩⟩
    · have b2 : ((h : Int) == (dw : Int)) = false := by rw [hq] at b0; simpa using b0
      clear b0
      go_wp2_with fail
      have S0 := HS.out.set 15 (by omega) (by omega) (by omega) (by omega) (.bool false)
      have f0 : (wc.setCell ⟨s, 15, none⟩ (.bool false)).cell? ⟨s, 15, none⟩ = some (.bool false) := sc_same _ _ _ _ _ h15
      clear HS hco hcs hch hc0 hc1 hc2 hc3 hB hfz h13 h14 h15 hsz HNS
      generalize wc.setCell ⟨s, 15, none⟩ (.bool false) = W0 at S0 f0 ⊢
      have sW0 := World.block_lt_of_cell? _ _ f0
      have bW0 := World.block_lt_of_cell? _ _ S0.cap.cs
      refine (covers_any n dh W0 hn hn1 (by omega)).mono ?_
      rintro e w1 ⟨rfl, hb1, hl1, hx⟩
      have S1 := S0.later hb1
      have f1 : w1.cell? ⟨s, 15, none⟩ = some (.bool false) := (hb1.cell (p := ⟨s, 15, none⟩) sW0).trans f0
      have gxB : bs < W0.heap.size ∧ s < W0.heap.size ∧ w.heap.size ≤ W0.heap.size := ⟨bW0, sW0, S0.cap.hb.size⟩
      clear S0 f0 hb1 sW0 bW0
      generalize W0.heap.size = gx at hl1 hx gxB ⊢
      have HX : Hid (∀ i, i < dh → CovAt w1 gx n dh i) := hx
      have HS1 : Hid (Scl w s bs bh o st dh dw (.slice ap lp cp) (.int .i64 dw) (.int .i64 dh) w1) := S1
      clear hx
      obtain ⟨⟨_, hcs, hch, _, _, _, _, _, _, _, _, _, _⟩, hex, hfz, _, _, _, _, _⟩ := S1
      obtain ⟨v7, h7⟩ := hex 7 (by omega)
      obtain ⟨v9, h9⟩ := hex 9 (by omega)
      clear hex
      obtain ⟨gx0, gx1, gx2⟩ := gxB
      go_wp2_with fail
      have S2 := (HS1.out.set 7 (by omega) (by omega) (by omega) (by omega) (.slice (some ⟨gx, 0, none⟩) dh dh)).set 9 (by omega) (by omega) (by omega) (by omega) (.float .f32 (fdiv (f32 dh) (f32 n)))
      have F2 : ((w1.setCell ⟨s, 7, none⟩ (.slice (some ⟨gx, 0, none⟩) dh dh)).setCell ⟨s, 9, none⟩ (.float .f32 (fdiv (f32 dh) (f32 n)))).cell? ⟨s, 7, none⟩ = some (.slice (some ⟨gx, 0, none⟩) dh dh) ∧
          ((w1.setCell ⟨s, 7, none⟩ (.slice (some ⟨gx, 0, none⟩) dh dh)).setCell ⟨s, 9, none⟩ (.float .f32 (fdiv (f32 dh) (f32 n)))).cell? ⟨s, 9, none⟩ = some (.float .f32 (fdiv (f32 dh) (f32 n))) ∧
          ((w1.setCell ⟨s, 7, none⟩ (.slice (some ⟨gx, 0, none⟩) dh dh)).setCell ⟨s, 9, none⟩ (.float .f32 (fdiv (f32 dh) (f32 n)))).cell? ⟨s, 15, none⟩ = some (.bool false) ∧
          (∀ i, i < dh → CovAt ((w1.setCell ⟨s, 7, none⟩ (.slice (some ⟨gx, 0, none⟩) dh dh)).setCell ⟨s, 9, none⟩ (.float .f32 (fdiv (f32 dh) (f32 n)))) gx n dh i) ∧
          gx < ((w1.setCell ⟨s, 7, none⟩ (.slice (some ⟨gx, 0, none⟩) dh dh)).setCell ⟨s, 9, none⟩ (.float .f32 (fdiv (f32 dh) (f32 n)))).heap.size := by
        refine ⟨?_, ?_, ?_, fun i hi => (HX.out i hi).of (fun j => ?_), by simpa using hl1⟩
        · rw [sc_other _ _ _ _ _ (by omega)]; exact sc_same _ _ _ _ _ h7
        · exact sc_same _ _ _ _ v9 (by rw [sc_other _ _ _ _ _ (by omega)]; exact h9)
        · rw [sc_other _ _ _ _ _ (by omega), sc_other _ _ _ _ _ (by omega)]; exact f1
        · rw [sc_block _ _ _ _ (by omega), sc_block _ _ _ _ (by omega)]
      clear HS1 HX hcs hch hfz h7 h9 f1 hl1
      generalize (w1.setCell ⟨s, 7, none⟩ (.slice (some ⟨gx, 0, none⟩) dh dh)).setCell ⟨s, 9, none⟩ (.float .f32 (fdiv (f32 dh) (f32 n))) = W2 at S2 F2 ⊢
      obtain ⟨k7, k9, k15, kx, gxW⟩ := F2
      refine (covers_any h dw W2 hh hh1 (by omega)).mono ?_
      rintro e w3 ⟨rfl, hb3, hl3, hy⟩
      have S3 := S2.later hb3
      have sW2 := World.block_lt_of_cell? _ _ k7
      have F3 : w3.cell? ⟨s, 7, none⟩ = some (.slice (some ⟨gx, 0, none⟩) dh dh) ∧ w3.cell? ⟨s, 9, none⟩ = some (.float .f32 (fdiv (f32 dh) (f32 n))) ∧ w3.cell? ⟨s, 15, none⟩ = some (.bool false) ∧ (∀ i, i < dh → CovAt w3 gx n dh i) :=
        ⟨(hb3.cell (p := ⟨s, 7, none⟩) sW2).trans k7, (hb3.cell (p := ⟨s, 9, none⟩) sW2).trans k9, (hb3.cell (p := ⟨s, 15, none⟩) sW2).trans k15, fun i hi => (kx i hi).of (fun j => hb3.cell (p := ⟨gx, j, none⟩) gxW)⟩
      clear S2 hb3 k7 k9 k15 kx
      generalize W2.heap.size = gy at hl3 hy gxW sW2 ⊢
      have HY : Hid (∀ i, i < dw → CovAt w3 gy h dw i) := hy
      have HS3 : Hid (Scl w s bs bh o st dh dw (.slice ap lp cp) (.int .i64 dw) (.int .i64 dh) w3) := S3
      have HF3 : Hid (w3.cell? ⟨s, 7, none⟩ = some (.slice (some ⟨gx, 0, none⟩) dh dh) ∧ w3.cell? ⟨s, 9, none⟩ = some (.float .f32 (fdiv (f32 dh) (f32 n))) ∧ w3.cell? ⟨s, 15, none⟩ = some (.bool false) ∧ (∀ i, i < dh → CovAt w3 gx n dh i)) := F3
      clear hy F3
      obtain ⟨⟨_, hcs, hch, _, _, _, _, _, _, _, _, _, _⟩, hex, hfz, _, _, _, _, _⟩ := S3
      obtain ⟨v8, h8⟩ := hex 8 (by omega)
      obtain ⟨v10, h10⟩ := hex 10 (by omega)
      obtain ⟨v12, h12⟩ := hex 12 (by omega)
      clear hex
      go_upto_region 12 with fail
      have S4 := (HS3.out.set 8 (by omega) (by omega) (by omega) (by omega) (.slice (some ⟨gy, 0, none⟩) dw dw)).set 10 (by omega) (by omega) (by omega) (by omega) (.float .f32 (fdiv (f32 dw) (f32 h)))
      have F4 : ((w3.setCell ⟨s, 8, none⟩ (.slice (some ⟨gy, 0, none⟩) dw dw)).setCell ⟨s, 10, none⟩ (.float .f32 (fdiv (f32 dw) (f32 h)))).cell? ⟨s, 8, none⟩ = some (.slice (some ⟨gy, 0, none⟩) dw dw) ∧
          ((w3.setCell ⟨s, 8, none⟩ (.slice (some ⟨gy, 0, none⟩) dw dw)).setCell ⟨s, 10, none⟩ (.float .f32 (fdiv (f32 dw) (f32 h)))).cell? ⟨s, 10, none⟩ = some (.float .f32 (fdiv (f32 dw) (f32 h))) ∧
          ((w3.setCell ⟨s, 8, none⟩ (.slice (some ⟨gy, 0, none⟩) dw dw)).setCell ⟨s, 10, none⟩ (.float .f32 (fdiv (f32 dw) (f32 h)))).cell? ⟨s, 7, none⟩ = some (.slice (some ⟨gx, 0, none⟩) dh dh) ∧
          ((w3.setCell ⟨s, 8, none⟩ (.slice (some ⟨gy, 0, none⟩) dw dw)).setCell ⟨s, 10, none⟩ (.float .f32 (fdiv (f32 dw) (f32 h)))).cell? ⟨s, 9, none⟩ = some (.float .f32 (fdiv (f32 dh) (f32 n))) ∧
          ((w3.setCell ⟨s, 8, none⟩ (.slice (some ⟨gy, 0, none⟩) dw dw)).setCell ⟨s, 10, none⟩ (.float .f32 (fdiv (f32 dw) (f32 h)))).cell? ⟨s, 15, none⟩ = some (.bool false) ∧
          (∀ i, i < dh → CovAt ((w3.setCell ⟨s, 8, none⟩ (.slice (some ⟨gy, 0, none⟩) dw dw)).setCell ⟨s, 10, none⟩ (.float .f32 (fdiv (f32 dw) (f32 h)))) gx n dh i) ∧ (∀ i, i < dw → CovAt ((w3.setCell ⟨s, 8, none⟩ (.slice (some ⟨gy, 0, none⟩) dw dw)).setCell ⟨s, 10, none⟩ (.float .f32 (fdiv (f32 dw) (f32 h)))) gy h dw i) ∧ gy < ((w3.setCell ⟨s, 8, none⟩ (.slice (some ⟨gy, 0, none⟩) dw dw)).setCell ⟨s, 10, none⟩ (.float .f32 (fdiv (f32 dw) (f32 h)))).heap.size := by
        obtain ⟨k7, k9, k15, kx⟩ := HF3.out
        refine ⟨?_, ?_, ?_, ?_, ?_, fun i hi => (kx i hi).of (fun j => ?_), fun i hi => (HY.out i hi).of (fun j => ?_), by simpa using hl3⟩
        · rw [sc_other _ _ _ _ _ (by omega)]; exact sc_same _ _ _ _ _ h8
        · exact sc_same _ _ _ _ v10 (by rw [sc_other _ _ _ _ _ (by omega)]; exact h10)
        · rw [sc_other _ _ _ _ _ (by omega), sc_other _ _ _ _ _ (by omega)]; exact k7
        · rw [sc_other _ _ _ _ _ (by omega), sc_other _ _ _ _ _ (by omega)]; exact k9
        · rw [sc_other _ _ _ _ _ (by omega), sc_other _ _ _ _ _ (by omega)]; exact k15
        · rw [sc_block _ _ _ _ (by omega), sc_block _ _ _ _ (by omega)]
        · rw [sc_block _ _ _ _ (by omega), sc_block _ _ _ _ (by omega)]
      have gxy : gx < gy ∧ s < gy ∧ bs < gy := ⟨gxW, sW2, by omega⟩
      clear HS3 HY HF3 hcs hch hfz h8 h10 h12 hl3 gxW sW2
      generalize ((w3.setCell ⟨s, 8, none⟩ (.slice (some ⟨gy, 0, none⟩) dw dw)).setCell ⟨s, 10, none⟩ (.float .f32 (fdiv (f32 dw) (f32 h)))) = W4 at S4 F4 ⊢
      have HF4 : Hid _ := F4
      have HS4 : Hid (Scl w s bs bh o st dh dw (.slice ap lp cp) (.int .i64 dw) (.int .i64 dh) W4) := S4
      have gyW : gy < W4.heap.size := F4.2.2.2.2.2.2.2
      clear F4
      obtain ⟨⟨_, hcs, hch, _, _, _, _, _, _, _, _, _, _⟩, hex, hfz, _, _, _, _, _⟩ := S4
      obtain ⟨v12, h12⟩ := hex 12 (by omega)
      clear hex
      obtain ⟨gxy, sgy, bsgy⟩ := gxy
      obtain ⟨i1, hi1, hy0, hy1, hy2⟩ := info_parts Try.info22'
      obtain ⟨L, hL⟩ : ∃ L : Nat, L = (dw + h - 1) / h + 2 := ⟨_, rfl⟩
      have hLi : Int.tdiv ((dw : Int) + (h : Int) - 1) (h : Int) + 2 = (L : Int) := by
        have e1 : ((dw : Int) + (h : Int) - 1) = ((dw + h - 1 : Nat) : Int) := by omega
        rw [e1, ← Int.ofNat_tdiv, hL]; push_cast; rfl
      have hL1 : L ≤ 200000 := by
        have := Nat.div_le_self (dw + h - 1) h
        omega
      clear hL
      go_wp2_with (first | (at_make; refine wpList_make_full _ rfl _ _ 47 rfl W4.heap.size 22 i1 _ 1 Try.underlying47 hi1 hy0 hy1 _ _ _ _ L rfl rfl (by omega) (by omega) ?c1 ?c2 ?c3 ?_) | go_in)
      case c1 => rw [hy2]; omega
      case c2 => unfold maxLen; omega
      case c3 => exact Nat.le_refl _
      intro w5 hown hgrow
      have hb5 := (Below.refl W4.heap.size W4).grown hgrow (Nat.le_refl _) (fun k e => by cases e)
      clear hgrow hLi hcs hch hfz h12
      have HO : Hid ((∀ j, j < L → ∃ v, w5.cell? ⟨W4.heap.size, j, none⟩ = some v) ∧ (∀ j, w5.frozen? ⟨W4.heap.size, j, none⟩ = false) ∧ W4.heap.size < w5.heap.size) := by
        refine ⟨fun j hj => ?_, fun j => hown.frozenAt j, (hown.lt _ rfl).2⟩
        have hl := hown.1
        rw [hown.cellAt j (by omega)]
        exact ⟨_, List.getElem?_eq_getElem (by omega)⟩
      clear hown
      have S5 := HS4.out.later hb5
      have HS5 : Hid (Scl w s bs bh o st dh dw (.slice ap lp cp) (.int .i64 dw) (.int .i64 dh) w5) := S5
      have F5 : w5.cell? ⟨s, 8, none⟩ = some (.slice (some ⟨gy, 0, none⟩) dw dw) ∧
          w5.cell? ⟨s, 10, none⟩ = some (.float .f32 (fdiv (f32 dw) (f32 h))) ∧
          w5.cell? ⟨s, 7, none⟩ = some (.slice (some ⟨gx, 0, none⟩) dh dh) ∧
          w5.cell? ⟨s, 9, none⟩ = some (.float .f32 (fdiv (f32 dh) (f32 n))) ∧
          w5.cell? ⟨s, 15, none⟩ = some (.bool false) ∧
          (∀ i, i < dh → CovAt w5 gx n dh i) ∧ (∀ i, i < dw → CovAt w5 gy h dw i) := by
        obtain ⟨k8, k10, k7, k9, k15, kx, ky, _⟩ := HF4.out
        have hc : ∀ b x, b ≤ gy → w5.cell? ⟨b, x, none⟩ = W4.cell? ⟨b, x, none⟩ := fun b x hb => hb5.cell (p := ⟨b, x, none⟩) (Nat.lt_of_le_of_lt hb gyW)
        exact ⟨(hc _ _ (by omega)).trans k8, (hc _ _ (by omega)).trans k10, (hc _ _ (by omega)).trans k7, (hc _ _ (by omega)).trans k9, (hc _ _ (by omega)).trans k15,
          fun i hi => (kx i hi).of (fun j => hc _ _ (by omega)), fun i hi => (ky i hi).of (fun j => hc _ _ (by omega))⟩
      have HF5 : Hid _ := F5
      have gsw : w.heap.size ≤ W4.heap.size := HS4.out.cap.hb.size
      clear F5 HF4 HS4 hb5
      generalize W4.heap.size = gs at HO gyW gsw ⊢
      obtain ⟨⟨_, hcs, hch, _, _, _, _, _, _, _, _, _, _⟩, hex, hfz, _, _, _, _, _⟩ := S5
      obtain ⟨v12, h12⟩ := hex 12 (by omega)
      clear hex
      go_wp2
      go_loopw [106] (fun i wr => ∃ k : Nat, k ≤ L ∧ i = .int .i64 k ∧ Fin w s gx gy gs bs n h dh dw L wr) (fun i _ => L - (intOf i).toNat)
      case atStart =>
        obtain ⟨k8, k10, k7, k9, k15, kx, ky⟩ := HF5.out
        obtain ⟨og1, og2, og3⟩ := HO.out
        have S6 := HS5.out.set 12 (by omega) (by omega) (by omega) (by omega) (.slice (some ⟨gs, 0, none⟩) L L)
        refine ⟨0, Nat.zero_le _, rfl, S6.cap.hb, ?_, ?_, ?_, ?_, sc_same _ _ _ _ _ h12, S6.c13, S6.c14, ?_, S6.cap.cs, fun i hi => (kx i hi).of (fun j => ?_), fun i hi => (ky i hi).of (fun j => ?_), fun j hj => ?_, fun j => ?_, by omega, by omega, by omega, by omega, gsw, by simpa [World.setCell] using og3⟩
        · rw [sc_other _ _ _ _ _ (by omega)]; exact k7
        · rw [sc_other _ _ _ _ _ (by omega)]; exact k8
        · rw [sc_other _ _ _ _ _ (by omega)]; exact k9
        · rw [sc_other _ _ _ _ _ (by omega)]; exact k10
        · rw [sc_other _ _ _ _ _ (by omega)]; exact k15
        · rw [sc_block _ _ _ _ (by omega)]
        · rw [sc_block _ _ _ _ (by omega)]
        · rw [sc_block _ _ _ _ (by omega)]; exact og1 j hj
        · rw [World.frozen?_setCell]; exact og2 j
      case round =>
        clear HO HF5 HS5 hcs hch hfz h12
        obtain ⟨k, hk, rfl, hrel⟩ := hrel
        have HF : Hid (Fin w s gx gy gs bs n h dh dw L wr) := hrel
        obtain ⟨fb, f7, f8, f9, f10, f12, f13, f14, f15, fcs, fx, fy, gex, gfz, _, _, _, _, _, gsW⟩ := hrel
        by_cases hlt : k < L
        · obtain ⟨vk, hvk⟩ := gex k hlt
          clear gex fx fy
          have sW : s < wr.heap.size := by omega
          have bW : bs < wr.heap.size := by omega
          go_upto_region 16 with fail
          go_region
          all_goals
            go_wp2
            go_roundw
            case rel => exact ⟨k + 1, by omega, by go_num, HF.out.step _ _ _⟩
            case measure => simp [intOf]; omega
        · have hkm : k = L := by omega
          clear gex fx fy
          subst hkm
          go_wp2
          go_ret
          have F := HF.out
          have l3 := F.l3
          have l6 := F.l6
          exact ⟨s, rfl, F.hb, F.c13, F.c14, .inr ⟨F.c15, gx, gy, F.c7, F.c8, F.c9, F.c10, by omega, by omega, F.hx, F.hy⟩⟩
end Go.Proofs.Qxb6602560a
