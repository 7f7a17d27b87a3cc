import Derived.Test.Qxb6602560aAvgHead
namespace Go.Proofs.Qxb6602560a
open Go.ChangeShapes Go.WideShapes Go.ChangeAt Go.RowKit
set_option linter.unusedVariables false

theorem IRel.drew {w : World} {g m : Nat} {acc : Nat → Nat} {wr : World} (h : IRel w g m acc wr) : IRel w g m acc wr.drew := ⟨h.hv, h.hfz, ⟨h.hgr.os, h.hgr.tape, h.hgr.output, h.hgr.size, h.hgr.block⟩⟩

/-- What the plain law says of sample i. -/
def Near (l : List Nat) (M : Nat) (ov : Nat → Nat) (i : Nat) : Prop :=
  (l.length = M → ov i = f32 (l.getD i 0)) ∧
  (l.length ≠ M → (cLo l.length M i ≤ cvHi l.length M i ∧ cvHi l.length M i ≤ l.length) ∧ Step l (fdiv (f32 M) (f32 l.length)) (cLo l.length M i) (cvHi l.length M i) (cvWl l.length M i) (cvWh l.length M i) (ov i)) ∧
  (l.length ≠ M → ∃ v, Fl.Isp Ieee.single (ov i) v ∧ v ≤ (takes l l.length M i : Rat) / (l.length : Rat) + 1 / 2048 ∧ (takes l l.length M i : Rat) / (l.length : Rat) ≤ v + 1 / 2048)

theorem near_ex (l : List Nat) (M : Nat) (hn1 : 1 ≤ l.length) (hl : l.length ≤ 32768) (hM1 : 1 ≤ M) (hM : M ≤ 32768) (hby : ∀ i, i < l.length → l.getD i 0 ≤ 255) : ∃ ov : Nat → Nat, ∀ i, i < M → Near l M ov i := by
  by_cases h : l.length = M
  · exact ⟨fun i => f32 (l.getD i 0), fun i hi => ⟨fun _ => rfl, fun h' => absurd h h', fun h' => absurd h h'⟩⟩
  · obtain ⟨ov, hov⟩ := pick M (fun i r => (cLo l.length M i ≤ cvHi l.length M i ∧ cvHi l.length M i ≤ l.length) ∧ Step l (fdiv (f32 M) (f32 l.length)) (cLo l.length M i) (cvHi l.length M i) (cvWl l.length M i) (cvWh l.length M i) r ∧
      ∃ v, Fl.Isp Ieee.single r v ∧ v ≤ (takes l l.length M i : Rat) / (l.length : Rat) + 1 / 2048 ∧ (takes l l.length M i : Rat) / (l.length : Rat) ≤ v + 1 / 2048) (fun i hi => by
        obtain ⟨q1, r, v, q2, q3, q4, q5⟩ := avg_step l l.length M i rfl hn1 hl hM1 hM hi hby
        exact ⟨r, q1, q2, v, q3, q4, q5⟩)
    exact ⟨ov, fun i hi => ⟨fun h' => absurd h' h, fun _ => ⟨(hov i hi).1, (hov i hi).2.1⟩, fun _ => (hov i hi).2.2⟩⟩

set_option maxRecDepth 100000 in
set_option maxHeartbeats 2000000 in
theorem avg_main (a0 a3 : Option Addr) (c0 c3 M : Nat) (l : List Nat) (w : World) (hn1 : 1 ≤ l.length) (hl : l.length ≤ 32768) (hM1 : 1 ≤ M) (hM : M ≤ 32768) (h0 : Cells w a0 M) (h3 : Row w a3 l) :
    Calls Try.prog 3 #[.slice a0 M c0, .slice a3 l.length c3] w fun e w' => e = .returned (.bool true) ∧ Below w.heap.size w w' := by
  have hby := h3.1
  obtain ⟨ov, hov⟩ := near_ex l M hn1 hl hM1 hM hby
  have HV : Hid (∀ i, i < M → Near l M ov i) := hov
  clear hov
  have hz : ((l.length : Int) == 0) = false := beq_eq_false_iff_ne.2 (by omega)
  obtain ⟨i0, hi, hz0, hz1, hz2⟩ := info_parts Try.info2
  go_enter Try.func3, Try.ntmps3
  go_wp2_with (go_at_call 6; refine (zz6_true _ _ _ _ _ _ _ (by omega)).mono ?_; rintro e w' ⟨rfl, rfl⟩)
  refine (cloneF_any a0 M c0 _ (by omega) h0).mono ?_
  rintro e w1 ⟨a1, c1, rfl, hb1, hF⟩
  obtain ⟨rfl, hown1⟩ := hF.resolve_left (by omega)
  clear hF
  go_wp2_with fail
  refine (cloneB_any a3 c3 l _ (by omega) (h3.later hb1)).mono ?_
  rintro e w2 ⟨a2, c2, rfl, hr2, hb2, hc2, hc2b, hfr⟩
  go_wp2_with fail
  refine (zzcovers_any l.length M _ (by omega) hn1 (by omega)).mono ?_
  rintro e w3 ⟨rfl, hb3, hs3, hcov⟩
  have hg1 := hown1.2.1
  have hs12 := hb2.size
  have AC := zzacross _ _ _ _ w3 (across_any (base := w.heap.size) w.heap.size c1 c2 w2.heap.size (fdiv (f32 M) (f32 l.length)) M a2 l w3 (by omega) hn1 (by omega) hM1 hc2 hc2b (hr2.later hb3) ?hne (by have := hb3.size; omega) hs3 (by omega) hcov ov (fun e i hi => (HV.out i hi).1 e) (fun e i hi => (HV.out i hi).2.1 e) ((hown1.later hb2 hg1).later hb3 (by omega)))
  case hne => exact fun b off e => by have := hfr b off e; omega
  have R3 := hr2.later hb3
  have B3 : Below w.heap.size w w3 := (hb1.trans (hb2.mono hb1.size)).trans (hb3.mono (Nat.le_trans hb1.size hb2.size))
  have HAC := AC
  have hs23 := hb3.size
  clear AC hcov hr2 hb2 hb3 hown1
  have HB1 := hb1.size
  go_wp2_with fail
  refine HAC.mono ?_
  rintro e w4 ⟨rfl, hA⟩
  have hbel : Below w.heap.size w w4 := B3.grown hA.hgr B3.size (fun k e => by obtain rfl := Option.some.inj e; exact Nat.le_refl _)
  obtain ⟨b, off, rfl, hb, hc⟩ := R3.2.resolve_left (by intro e; subst e; simp at hn1)
  obtain rfl := hfr b off rfl
  have hrow : ∀ i, i < l.length → w4.cell? ⟨w1.heap.size, off + i, none⟩ = some (.int .u8 ((l.getD i 0 : Nat) : Int)) := fun i hi => (grown_cell hA.hgr hb (by omega)).trans (hc i hi)
  have HROW : Hid (∀ i, i < l.length → w4.cell? ⟨w1.heap.size, off + i, none⟩ = some (.int .u8 ((l.getD i 0 : Nat) : Int))) := hrow
  have HOUT : Hid (∀ i, i < M → w4.cell? ⟨w.heap.size, i, none⟩ = some (.float .f32 (ov i))) := hA.hov
  have hs34 := hA.hgr.size
  clear HAC hrow hc hA R3 B3 hb1 hfr h0 h3
  go_wp2_with (first | (at_make; refine wpList_make_full _ rfl _ _ 32 rfl w4.heap.size 2 i0 (.int .i64 0) 1 Try.underlying32 hi hz0 hz1 _ _ _ _ M rfl rfl (by omega) (by omega) ?c1 ?c2 ?c3 ?_) | go_in)
  case c1 => rw [hz2]; omega
  case c2 => unfold maxLen; omega
  case c3 => exact Nat.le_refl _
  intro w5 hown hgrow
  have hb5 := (Below.refl w4.heap.size w4).grown hgrow (Nat.le_refl _) (fun k e => by cases e)
  have hga := (hown.lt w4.heap.size rfl).2
  have HI : IRel w5 w4.heap.size M (fun _ => 0) w5 := by
    refine ⟨fun j hj => ?_, fun j => hown.frozenAt j, ⟨rfl, rfl, rfl, Nat.le_refl _, fun _ _ _ => rfl⟩⟩
    rw [hown.cellAt j (by omega)]
    have e : (madeCells (Value.cells (.int .i64 0)) (M * 1)).toList = List.replicate (M * 1) (.int .i64 0) := toList_madeCells_one _ _
    first | (rw [e, List.getElem?_replicate, if_pos (by omega)]; rfl) | (simp [toList_madeCells_one, hj])
  have HROW5 : Hid (∀ i, i < l.length → w5.cell? ⟨w1.heap.size, off + i, none⟩ = some (.int .u8 ((l.getD i 0 : Nat) : Int))) := fun i hi => (hb5.cell (p := ⟨w1.heap.size, off + i, none⟩) (by show w1.heap.size < w4.heap.size; omega)).trans (HROW.out i hi)
  have HOUT5 : Hid (∀ i, i < M → w5.cell? ⟨w.heap.size, i, none⟩ = some (.float .f32 (ov i))) := fun i hi => (hb5.cell (p := ⟨w.heap.size, i, none⟩) (by show w.heap.size < w4.heap.size; omega)).trans (HOUT.out i hi)
  have hbel5 : Below w.heap.size w w5 := hbel.trans (hb5.mono hbel.size)
  clear hown hgrow hb5 HROW HOUT hbel
  go_wp2
  go_loopw [10, 11, 12] (fun pv iv xv wr => ∃ (i x p : Nat) (acc : Nat → Nat), Mrg l l.length M i x p acc ∧ pv = .int .i64 p ∧ iv = .int .i64 i ∧ xv = .int .i64 x ∧ IRel w5 w4.heap.size M acc wr) (fun _ iv xv _ => (M - (intOf iv).toNat) + (l.length - (intOf xv).toNat))
  case atStart => exact ⟨0, 0, 0, _, Mrg.start l l.length M, rfl, rfl, rfl, HI⟩
  case round =>
    clear HI
    obtain ⟨i, x, p, acc, hM', rfl, rfl, rfl, hI⟩ := hrel
    have him := hM'.hi
    have hxn := hM'.hx
    by_cases hgo : i < M ∧ x < l.length
    · obtain ⟨gi, gx⟩ := hgo
      have o1 := hI.hv i gi
      have o2 := hI.hfz i
      have o3 : wr.cell? ⟨w1.heap.size, off + x, none⟩ = some (.int .u8 ((l.getD x 0 : Nat) : Int)) := (grown_cell hI.hgr (by omega) (by omega)).trans (HROW5.out x gx)
      have hin := hM'.hin
      have hxm := hM'.hxm
      obtain ⟨EI, hEI⟩ : ∃ EI : Nat, EI = (i + 1) * l.length := ⟨_, rfl⟩
      obtain ⟨EX, hEX⟩ : ∃ EX : Nat, EX = (x + 1) * M := ⟨_, rfl⟩
      have hEIb : EI ≤ 32768 * 32768 := by rw [hEI]; exact Nat.mul_le_mul (by omega) hl
      have hEXb : EX ≤ 32768 * 32768 := by rw [hEX]; exact Nat.mul_le_mul (by omega) hM
      have eEI : ((i : Int) + 1) * (l.length : Int) = (EI : Int) := by rw [hEI]; exact (Int.natCast_mul (i + 1) l.length).symm
      have eEX : ((x : Int) + 1) * (M : Int) = (EX : Int) := by rw [hEX]; exact (Int.natCast_mul (x + 1) M).symm
      have hpI : p ≤ EI := by rw [hEI]; exact hin.2 gi
      have hpX : p ≤ EX := by rw [hEX]; exact hxm.2 gx
      have hzb := byte_all hby x
      have hacc : acc i ≤ 255 * 1073741824 := by
        have h1 := hM'.hc
        have h2 := inte_le l M p (byte_all hby)
        omega
      obtain ⟨z, hzz⟩ : ∃ z, z = l.getD x 0 := ⟨_, rfl⟩
      rw [← hzz] at o3 hzb
      have HZ : Hid (z = l.getD x 0) := hzz
      have HEI : Hid (EI = (i + 1) * l.length) := hEI
      have HEX : Hid (EX = (x + 1) * M) := hEX
      have HMR : Hid (Mrg l l.length M i x p acc) := hM'
      clear hin hxm hzz hEI hEX hM'
      rcases Nat.lt_trichotomy EI EX with hlt | heq | hgt
      · obtain ⟨D, hD⟩ : ∃ D : Nat, D = z * (EI - p) := ⟨_, rfl⟩
        have eD : (z : Int) * ((EI : Int) - (p : Int)) = (D : Int) := by
          rw [hD, Int.natCast_mul]; congr 1; omega
        have hDb : D ≤ 255 * 1073741824 := by
          rw [hD]; exact Nat.mul_le_mul hzb (by omega)
        have HD : Hid (D = z * (EI - p)) := hD
        clear hD
        have d1 : decide ((EX : Int) < (EI : Int)) = false := decide_eq_false (by omega)
        have d2 : decide (EX < EI) = false := decide_eq_false (by omega)
        have e1 : ((EI : Int) == (EI : Int)) = true := by simp
        have e2 : ((EI : Int) == (EX : Int)) = false := beq_eq_false_iff_ne.2 (by omega)
        have R : Mrg l l.length M (i + 1) x EI (fun j => if j = i then acc i + D else acc j) := by
          have := HMR.out.stepI (acc' := fun j => if j = i then acc i + D else acc j) hn1 hM1 gi gx (by rw [← HEI.out, ← HEX.out]; exact hlt) (by rw [if_pos rfl, HD.out, HZ.out, HEI.out]) (fun j hj => if_neg hj)
          rwa [← HEI.out] at this
        have RH : Hid (Mrg l l.length M (i + 1) x EI (fun j => if j = i then acc i + D else acc j)) := R
        clear R
        go_wp2
        go_region
        go_wp2
        go_roundw
        case rel => exact ⟨i + 1, x, EI, _, RH.out, rfl, by go_num, rfl, (hI.set gi (y := acc i + D) (by omega)).drew⟩
        case measure => simp [intOf]; omega
      · subst heq
        obtain ⟨D, hD⟩ : ∃ D : Nat, D = z * (EI - p) := ⟨_, rfl⟩
        have eD : (z : Int) * ((EI : Int) - (p : Int)) = (D : Int) := by
          rw [hD, Int.natCast_mul]; congr 1; omega
        have hDb : D ≤ 255 * 1073741824 := by
          rw [hD]; exact Nat.mul_le_mul hzb (by omega)
        have HD : Hid (D = z * (EI - p)) := hD
        clear hD
        have d1 : decide ((EI : Int) < (EI : Int)) = false := decide_eq_false (by omega)
        have e1 : ((EI : Int) == (EI : Int)) = true := by simp
        have R : Mrg l l.length M (i + 1) (x + 1) EI (fun j => if j = i then acc i + D else acc j) := by
          have := HMR.out.stepB (acc' := fun j => if j = i then acc i + D else acc j) hn1 hM1 gi gx (by rw [← HEI.out, ← HEX.out]) (by rw [if_pos rfl, HD.out, HZ.out, HEI.out]) (fun j hj => if_neg hj)
          rwa [← HEI.out] at this
        have RH : Hid (Mrg l l.length M (i + 1) (x + 1) EI (fun j => if j = i then acc i + D else acc j)) := R
        clear R
        go_wp2
        go_region
        go_wp2
        go_roundw
        case rel => exact ⟨i + 1, x + 1, EI, _, RH.out, rfl, by go_num, by go_num, (hI.set gi (y := acc i + D) (by omega)).drew⟩
        case measure => simp [intOf]; omega
      · obtain ⟨D, hD⟩ : ∃ D : Nat, D = z * (EX - p) := ⟨_, rfl⟩
        have eD : (z : Int) * ((EX : Int) - (p : Int)) = (D : Int) := by
          rw [hD, Int.natCast_mul]; congr 1; omega
        have hDb : D ≤ 255 * 1073741824 := by
          rw [hD]; exact Nat.mul_le_mul hzb (by omega)
        have HD : Hid (D = z * (EX - p)) := hD
        clear hD
        have d1 : (EX : Int) < (EI : Int) := by omega
        have e1 : ((EX : Int) == (EX : Int)) = true := by simp
        have e2 : ((EX : Int) == (EI : Int)) = false := beq_eq_false_iff_ne.2 (by omega)
        have R : Mrg l l.length M i (x + 1) EX (fun j => if j = i then acc i + D else acc j) := by
          have := HMR.out.stepX (acc' := fun j => if j = i then acc i + D else acc j) hn1 hM1 gi gx (by rw [← HEI.out, ← HEX.out]; exact hgt) (by rw [if_pos rfl, HD.out, HZ.out, HEX.out]) (fun j hj => if_neg hj)
          rwa [← HEX.out] at this
        have RH : Hid (Mrg l l.length M i (x + 1) EX (fun j => if j = i then acc i + D else acc j)) := R
        clear R
        go_wp2
        go_region
        go_wp2
        go_roundw
        case rel => exact ⟨i, x + 1, EX, _, RH.out, rfl, rfl, by go_num, (hI.set gi (y := acc i + D) (by omega)).drew⟩
        case measure => simp [intOf]; omega
    · by_cases hiM : i < M
      · have hxe : x = l.length := by omega
        have HACC : Hid (∀ j, j < M → wr.cell? ⟨w4.heap.size, j, none⟩ = some (.int .i64 (takes l l.length M j : Int))) := fun j hj => by rw [hI.hv j hj, hM'.done hn1 hM1 (.inr hxe) j hj]
        have HROWr : Hid (∀ i, i < l.length → wr.cell? ⟨w1.heap.size, off + i, none⟩ = some (.int .u8 ((l.getD i 0 : Nat) : Int))) := fun i hi => (grown_cell hI.hgr (by omega) (by omega)).trans (HROW5.out i hi)
        have HOUTr : Hid (∀ i, i < M → wr.cell? ⟨w.heap.size, i, none⟩ = some (.float .f32 (ov i))) := fun i hi => (grown_cell hI.hgr (by omega) (by omega)).trans (HOUT5.out i hi)
        have HBr : Below w.heap.size w wr := hbel5.grown hI.hgr hbel5.size (fun k e => by obtain rfl := Option.some.inj e; omega)
        clear HROW5 HOUT5 hM' hI hbel5
        have hxd : decide ((x : Int) < (l.length : Int)) = false := decide_eq_false (by omega)
        have hxd2 : decide (x < l.length) = false := decide_eq_false (by omega)
        have hid2 : (i : Int) < (M : Int) := by omega
        have HXE : Hid (x = l.length) := hxe
        clear hxe
        go_wp2
        go_loopw [16] (fun kv wx => ∃ k n : Nat, k ≤ M ∧ kv = .int .i64 k ∧ wx = wr.drewN n) (fun kv _ => M - (intOf kv).toNat)
        case atStart => exact ⟨0, 0, Nat.zero_le _, rfl, rfl⟩
        case round =>
          obtain ⟨k, nn, hk, rfl, rfl⟩ := hrel
          by_cases hlt : k < M
          · have o1 := HOUTr.out k hlt
            have o2 := HACC.out k hlt
            obtain ⟨q1, q2, q3⟩ := HV.out k hlt
            have t1 : (k : Int) < (M : Int) := by omega
            by_cases hnm : l.length = M
            · have hkl : k < l.length := by omega
              have o3 := HROWr.out k hkl
              have hord : (FloatKind.f32.format.order (ov k) (floatOfInt .f32 ((l.getD k 0 : Nat) : Int)) != some .eq) = false := by
                have h0 := Fl.of32 (l.getD k 0) (by have := hby k hkl; omega)
                have h1 := (Fl.order_is h0.is h0.is).2.1 rfl
                rw [q1 hnm]
                show (Ieee.single.order (floatOfInt .f32 ((l.getD k 0 : Nat) : Int)) (floatOfInt .f32 ((l.getD k 0 : Nat) : Int)) != some .eq) = false
                rw [h1]; rfl
              generalize l.getD k 0 = z at o3 hord
              generalize ov k = o at o1 hord
              have heq : ((l.length : Int) == (M : Int)) = true := beq_iff_eq.2 (by omega)
              have t2 : (k : Int) < (l.length : Int) := by omega
              have HNM : Hid (l.length = M) := hnm
              clear q1 q2 q3 hnm
              go_wp2
              go_quiet (fail)
              go_wp2
              go_roundw
              case rel => exact ⟨k + 1, _, by omega, by go_num, rfl⟩
              case measure => simp [intOf]; omega
            · obtain ⟨v, v1, v2, v3⟩ := q3 hnm
              have hT : takes l l.length M k ≤ 255 * l.length := takes_le l l.length M k hby hn1 hM1 hlt
              obtain ⟨r64, qq, dd, f1, f2, f3, f4, f5⟩ := avg_cmp (ov k) (takes l l.length M k) l.length v1 hn1 hl hT v2 v3
              generalize takes l l.length M k = T at *
              generalize ov k = o at o1 f1
              have g1 := fun W => run_convert_float_float (P := Try.prog) W 28 33 .f32 .f64 o r64 rfl Try.underlying33 f1
              have g2 := fun W => run_float_arith (P := Try.prog) W .quo 33 .f64 _ _ _ f2
              have g3 := fun W => run_float_arith (P := Try.prog) W .sub 33 .f64 _ _ _ f3
              have heq : ((l.length : Int) == (M : Int)) = false := beq_eq_false_iff_ne.2 (by omega)
              clear q1 q2 q3 hnm f1 f2 f3 v1 v2 v3
              go_wp2
              go_quiet (fail)
              go_wp2
              go_roundw
              case rel => exact ⟨k + 1, _, by omega, by go_num, rfl⟩
              case measure => simp [intOf]; omega
          · go_wp2
            go_ret
            exact ⟨rfl, bdrew HBr _⟩
      · have hie : i = M := by omega
        have HACC : Hid (∀ j, j < M → wr.cell? ⟨w4.heap.size, j, none⟩ = some (.int .i64 (takes l l.length M j : Int))) := fun j hj => by rw [hI.hv j hj, hM'.done hn1 hM1 (.inl hie) j hj]
        have HROWr : Hid (∀ i, i < l.length → wr.cell? ⟨w1.heap.size, off + i, none⟩ = some (.int .u8 ((l.getD i 0 : Nat) : Int))) := fun i hi => (grown_cell hI.hgr (by omega) (by omega)).trans (HROW5.out i hi)
        have HOUTr : Hid (∀ i, i < M → wr.cell? ⟨w.heap.size, i, none⟩ = some (.float .f32 (ov i))) := fun i hi => (grown_cell hI.hgr (by omega) (by omega)).trans (HOUT5.out i hi)
        have HBr : Below w.heap.size w wr := hbel5.grown hI.hgr hbel5.size (fun k e => by obtain rfl := Option.some.inj e; omega)
        clear HROW5 HOUT5 hM' hI hbel5
        have hid : decide ((i : Int) < (M : Int)) = false := decide_eq_false (by omega)
        have hid2 : decide (i < M) = false := decide_eq_false (by omega)
        have HIE : Hid (i = M) := hie
        clear hie
        go_wp2
        go_loopw [16] (fun kv wx => ∃ k n : Nat, k ≤ M ∧ kv = .int .i64 k ∧ wx = wr.drewN n) (fun kv _ => M - (intOf kv).toNat)
        case atStart => exact ⟨0, 0, Nat.zero_le _, rfl, rfl⟩
        case round =>
          obtain ⟨k, nn, hk, rfl, rfl⟩ := hrel
          by_cases hlt : k < M
          · have o1 := HOUTr.out k hlt
            have o2 := HACC.out k hlt
            obtain ⟨q1, q2, q3⟩ := HV.out k hlt
            have t1 : (k : Int) < (M : Int) := by omega
            by_cases hnm : l.length = M
            · have hkl : k < l.length := by omega
              have o3 := HROWr.out k hkl
              have hord : (FloatKind.f32.format.order (ov k) (floatOfInt .f32 ((l.getD k 0 : Nat) : Int)) != some .eq) = false := by
                have h0 := Fl.of32 (l.getD k 0) (by have := hby k hkl; omega)
                have h1 := (Fl.order_is h0.is h0.is).2.1 rfl
                rw [q1 hnm]
                show (Ieee.single.order (floatOfInt .f32 ((l.getD k 0 : Nat) : Int)) (floatOfInt .f32 ((l.getD k 0 : Nat) : Int)) != some .eq) = false
                rw [h1]; rfl
              generalize l.getD k 0 = z at o3 hord
              generalize ov k = o at o1 hord
              have heq : ((l.length : Int) == (M : Int)) = true := beq_iff_eq.2 (by omega)
              have t2 : (k : Int) < (l.length : Int) := by omega
              have HNM : Hid (l.length = M) := hnm
              clear q1 q2 q3 hnm
              go_wp2
              go_quiet (fail)
              go_wp2
              go_roundw
              case rel => exact ⟨k + 1, _, by omega, by go_num, rfl⟩
              case measure => simp [intOf]; omega
            · obtain ⟨v, v1, v2, v3⟩ := q3 hnm
              have hT : takes l l.length M k ≤ 255 * l.length := takes_le l l.length M k hby hn1 hM1 hlt
              obtain ⟨r64, qq, dd, f1, f2, f3, f4, f5⟩ := avg_cmp (ov k) (takes l l.length M k) l.length v1 hn1 hl hT v2 v3
              generalize takes l l.length M k = T at *
              generalize ov k = o at o1 f1
              have g1 := fun W => run_convert_float_float (P := Try.prog) W 28 33 .f32 .f64 o r64 rfl Try.underlying33 f1
              have g2 := fun W => run_float_arith (P := Try.prog) W .quo 33 .f64 _ _ _ f2
              have g3 := fun W => run_float_arith (P := Try.prog) W .sub 33 .f64 _ _ _ f3
              have heq : ((l.length : Int) == (M : Int)) = false := beq_eq_false_iff_ne.2 (by omega)
              clear q1 q2 q3 hnm f1 f2 f3 v1 v2 v3
              go_wp2
              go_quiet (fail)
              go_wp2
              go_roundw
              case rel => exact ⟨k + 1, _, by omega, by go_num, rfl⟩
              case measure => simp [intOf]; omega
          · go_wp2
            go_ret
            exact ⟨rfl, bdrew HBr _⟩
end Go.Proofs.Qxb6602560a
