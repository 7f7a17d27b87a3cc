import Derived.Test.Qxb6602560aRepeat
namespace Go.Proofs.Qxb6602560a
open Go.ChangeShapes Go.WideShapes Go.ChangeAt Go.RowKit
set_option linter.unusedVariables false

theorem Own.later {w w' : World} {base g n B : Nat} (h : Own w base g n) (hb : Below B w w') (hg : g < B) : Own w' base g n :=
  ⟨h.1, Nat.lt_of_lt_of_le h.2.1 hb.size, fun j hj => by rw [hb.cell (p := ⟨g, j, none⟩) hg]; exact h.2.2.1 j hj, fun j => by rw [hb.frozen (p := ⟨g, j, none⟩) hg]; exact h.2.2.2 j⟩

theorem Own.arel {w : World} {base g m : Nat} (h : Own w base g m) (ov : Nat → Nat) : ARel w g m 0 ov w :=
  ⟨h.2.2.1, h.2.2.2, fun j hj => by omega, ⟨rfl, rfl, rfl, Nat.le_refl _, fun _ _ _ => rfl⟩⟩

/-- What scaleAcross leaves, in the worlds of the laws: out in block g, row and covers in blocks of their own. -/
theorem across_any {base : Nat} (g co cr gx full m : Nat) (ar : Option Addr) (l : List Nat) (w : World) (hl : l.length ≤ 65536) (hl1 : 1 ≤ l.length) (hm : m ≤ 65536) (hm1 : 1 ≤ m) (hcr : l.length ≤ cr) (hcr2 : cr ≤ 4194304)
    (hr : Row w ar l) (hne : ∀ b off, ar = some ⟨b, off, none⟩ → b ≠ g) (hgs : g < w.heap.size)
    (hgx : gx < w.heap.size) (hgxg : gx ≠ g) (hcov : ∀ i, i < m → CovAt w gx l.length m i)
    (ov : Nat → Nat) (hov1 : l.length = m → ∀ i, i < m → ov i = f32 (l.getD i 0))
    (hov2 : l.length ≠ m → ∀ i, i < m → (cLo l.length m i ≤ cvHi l.length m i ∧ cvHi l.length m i ≤ l.length) ∧ Step l full (cLo l.length m i) (cvHi l.length m i) (cvWl l.length m i) (cvWh l.length m i) (ov i))
    (hown : Own w base g m) :
    Calls Try.prog 20 #[.slice (some ⟨g, 0, none⟩) m co, .slice ar l.length cr, .slice (some ⟨gx, 0, none⟩) m m, .float .f32 full] w fun e w' => e = .returned (.tuple #[]) ∧ ARel w g m m ov w' := by
  obtain ⟨b, off, rfl, hb, hc⟩ := hr.2.resolve_left (by intro e; subst e; simp at hl1)
  have hbg := hne b off rfl
  by_cases hlm : l.length = m
  · subst hlm
    have h0 := hown.arel (fun i => f32 (l.getD i 0))
    refine (across_same g co (some ⟨b, off, none⟩) cr gx l.length full l w hl hr hgs (fun b' off' e _ => by simp only [Option.some.injEq, Addr.mk.injEq, and_true] at e; omega) (some ⟨g, 0, none⟩) (fun _ => rfl) (some ⟨gx, 0, none⟩) l.length h0).mono fun e w' ⟨he, hA⟩ => ⟨he, hA.hex, hA.hfz, fun j hj => ?_, hA.hgr⟩
    rw [hA.hov j hj, hov1 rfl j hj]
  · exact across_scaled g co b off cr gx full m l w hl hm hlm hcr hcr2 hr.1 hb hbg hc hgs hgx hgxg hcov (fun i hi => (hov2 hlm i hi).1) ov (fun i hi => (hov2 hlm i hi).2) (some ⟨g, 0, none⟩) (fun _ => rfl) (hown.arel ov)

set_option maxHeartbeats 1000000 in
theorem rep_main (a0 a3 : Option Addr) (c0 c3 n K : Nat) (l : List Nat) (w : World) (hn : n = l.length) (hK1 : 1 ≤ K) (hn1 : 1 ≤ l.length) (hl : l.length ≤ 32768) (hm : K * n ≤ 32768) (h0 : Cells w a0 (K * n)) (h3 : Row w a3 l) :
    Calls Try.prog 4 #[.slice a0 (K * n) c0, .slice a3 l.length c3] w fun e w' => e = .returned (.bool true) ∧ Below w.heap.size w w' := by
  -- the plain law first
  obtain ⟨cf, hfull⟩ : ∃ cf, Fl.Isp Ieee.single (fdiv (f32 (K * n)) (f32 n)) cf := by
    obtain ⟨_, cf, hfull, _⟩ := fdiv_spec (K * n) n (by omega) (by omega) (by omega)
    exact ⟨cf, hfull⟩
  obtain ⟨ov, hov⟩ : ∃ ov : Nat → Nat, ∀ i, i < K * n → (l.length = K * n → ov i = f32 (l.getD i 0)) ∧
      (l.length ≠ K * n → (cLo l.length (K * n) i ≤ cvHi l.length (K * n) i ∧ cvHi l.length (K * n) i ≤ l.length) ∧ Step l (fdiv (f32 (K * n)) (f32 l.length)) (cLo l.length (K * n) i) (cvHi l.length (K * n) i) (cvWl l.length (K * n) i) (cvWh l.length (K * n) i) (ov i)) ∧
      Fl.Isp Ieee.single (ov i) ((l.getD (i / K) 0 : Nat) : Rat) := by
    refine pick (K * n) (fun i r => (l.length = K * n → r = f32 (l.getD i 0)) ∧ (l.length ≠ K * n → (cLo l.length (K * n) i ≤ cvHi l.length (K * n) i ∧ cvHi l.length (K * n) i ≤ l.length) ∧ Step l (fdiv (f32 (K * n)) (f32 l.length)) (cLo l.length (K * n) i) (cvHi l.length (K * n) i) (cvWl l.length (K * n) i) (cvWh l.length (K * n) i) r) ∧ Fl.Isp Ieee.single r ((l.getD (i / K) 0 : Nat) : Rat)) (fun i hi => ?_)
    subst hn
    by_cases hk : K = 1
    · subst hk
      have hi' : i < l.length := by omega
      exact ⟨f32 (l.getD i 0), fun _ => rfl, fun hh => absurd (by omega) hh, by rw [Nat.div_one]; exact Fl.of32 _ (by have := h3.1 i hi'; omega)⟩
    · obtain ⟨q1, r, q2, q3⟩ := upscale l l.length K i rfl hn1 (by omega) (by omega) hi h3.1 (fdiv (f32 (K * l.length)) (f32 l.length)) hfull
      have h2 : 2 * l.length ≤ K * l.length := Nat.mul_le_mul_right _ (by omega)
      exact ⟨r, fun hh => by omega, fun _ => ⟨q1, q2⟩, q3⟩
  have hby := h3.1
  obtain ⟨M, hM⟩ : ∃ M, M = K * n := ⟨_, rfl⟩
  have hM1 : 1 ≤ M := by rw [hM]; exact Nat.mul_pos hK1 (by omega)
  have eK : (M : Int) / (l.length : Int) = (K : Int) := by
    rw [hM, ← hn, Int.natCast_mul]; exact Int.mul_ediv_cancel _ (by omega)
  have eR : (M : Int) % (l.length : Int) = 0 := by
    rw [hM, ← hn, Int.natCast_mul]; exact Int.mul_emod_left _ _
  rw [← hM] at h0 hm hov ⊢
  have HMK : Hid (M = K * n) := hM
  have HN : Hid (n = l.length) := hn
  have hKb : K ≤ 32768 := by
    have : K * 1 ≤ K * n := Nat.mul_le_mul_left K (by omega)
    omega
  clear hM hn
  have hz : ((l.length : Int) == 0) = false := beq_eq_false_iff_ne.2 (by omega)
  have HOV := hov
  clear hov hfull
  have HV : Hid (∀ i, i < M → (l.length = M → ov i = f32 (l.getD i 0)) ∧
      (l.length ≠ M → (cLo l.length M i ≤ cvHi l.length M i ∧ cvHi l.length M i ≤ l.length) ∧ Step l (fdiv (f32 M) (f32 l.length)) (cLo l.length M i) (cvHi l.length M i) (cvWl l.length M i) (cvWh l.length M i) (ov i)) ∧
      Fl.Isp Ieee.single (ov i) ((l.getD (i / K) 0 : Nat) : Rat)) := HOV
  clear HOV
  go_enter Try.func4, Try.ntmps4
  go_wp2_with (go_at_call 11; refine (zz11_true _ _ _ _ _ _ _ (by omega)).mono ?_; rintro e w' ⟨rfl, rfl⟩)
  refine (cloneF_any a0 M c0 _ (by omega) h0).mono ?_
  rintro e w1 ⟨a1, c1, rfl, hb1, hF⟩
  obtain ⟨rfl, hown1⟩ := hF.resolve_left (by omega)
  clear hF
  go_wp2_with fail
  refine (cloneB_any a3 c3 l _ (by omega) (h3.later hb1)).mono ?_
  rintro e w2 ⟨a2, c2, rfl, hr2, hb2, hc2, hc2b, hfr⟩
  go_wp2_with fail
  refine (zzcovers_any l.length M _ (by omega) hn1 (by omega)).mono ?_
  rintro e w3 ⟨rfl, hb3, hs3, hcov⟩
  have hg1 := hown1.2.1
  have hs12 := hb2.size
  have AC := zzacross _ _ _ _ w3 (across_any (base := w.heap.size) w.heap.size c1 c2 w2.heap.size (fdiv (f32 M) (f32 l.length)) M a2 l w3 (by omega) hn1 (by omega) hM1 hc2 hc2b (hr2.later hb3) ?hne (by have := hb3.size; omega) hs3 (by omega) hcov ov (fun e i hi => (HV.out i hi).1 e) (fun e i hi => (HV.out i hi).2.1 e) ((hown1.later hb2 hg1).later hb3 (by omega)))
  case hne => exact fun b off e => by have := hfr b off e; omega
  have R3 := hr2.later hb3
  have B3 : Below w.heap.size w w3 := (hb1.trans (hb2.mono hb1.size)).trans (hb3.mono (Nat.le_trans hb1.size hb2.size))
  have HAC := AC
  clear AC hcov hr2 hb2 hb3 hown1
  have HB1 := hb1.size
  go_wp2_with fail
  refine HAC.mono ?_
  rintro e w4 ⟨rfl, hA⟩
  have hbel : Below w.heap.size w w4 := B3.grown hA.hgr B3.size (fun k e => by obtain rfl := Option.some.inj e; exact Nat.le_refl _)
  obtain ⟨b, off, rfl, hb, hc⟩ := R3.2.resolve_left (by intro e; subst e; simp at hn1)
  obtain rfl := hfr b off rfl
  have hrow : ∀ i, i < l.length → w4.cell? ⟨w1.heap.size, off + i, none⟩ = some (.int .u8 ((l.getD i 0 : Nat) : Int)) := fun i hi => (grown_cell hA.hgr hb (by omega)).trans (hc i hi)
  have HROW : Hid (∀ i, i < l.length → w4.cell? ⟨w1.heap.size, off + i, none⟩ = some (.int .u8 ((l.getD i 0 : Nat) : Int))) := hrow
  have HOUT : Hid (∀ i, i < M → w4.cell? ⟨w.heap.size, i, none⟩ = some (.float .f32 (ov i))) := hA.hov
  have hK0 : ((K : Int) == 0) = false := beq_eq_false_iff_ne.2 (by omega)
  clear HAC hrow hc hA R3 B3 hb1 hfr h0 h3
  go_wp2
  go_loopw [8] (fun i wr => ∃ k n : Nat, k ≤ M ∧ i = .int .i64 k ∧ wr = w4.drewN n) (fun i _ => M - (intOf i).toNat)
  case atStart => exact ⟨0, 0, Nat.zero_le _, rfl, rfl⟩
  case round =>
    obtain ⟨k, nn, hk, rfl, rfl⟩ := hrel
    by_cases hlt : k < M
    · have o1 := HOUT.out k hlt
      obtain ⟨_, _, hval⟩ := HV.out k hlt
      obtain ⟨q, hq⟩ : ∃ q, q = k / K := ⟨_, rfl⟩
      have hql : q < l.length := by
        rw [hq]; refine Nat.div_lt_of_lt_mul ?_
        have := HMK.out; have := HN.out; rw [← HN.out, ← HMK.out]; exact hlt
      have o2 := HROW.out q hql
      rw [← hq] at hval
      have eQ : (k : Int) / (K : Int) = (q : Int) := by rw [hq]; rfl
      have hord : (FloatKind.f32.format.order (ov k) (floatOfInt .f32 ((l.getD q 0 : Nat) : Int)) != some .eq) = false := by
        have h1 := (Fl.order_is hval.is (Fl.of32 (l.getD q 0) (by have := hby q hql; omega)).is).2.1 rfl
        show (Ieee.single.order (ov k) (floatOfInt .f32 ((l.getD q 0 : Nat) : Int)) != some .eq) = false
        rw [h1]; rfl
      generalize l.getD q 0 = z at o2 hord hval
      generalize ov k = o at o1 hord hval
      have t1 : (k : Int) < (M : Int) := by omega
      have t2 : (q : Int) < (l.length : Int) := by omega
      have t3 : (k : Int) / (K : Int) < (l.length : Int) := by rw [eQ]; exact t2
      have t4 : 0 ≤ (k : Int) / (K : Int) := by rw [eQ]; omega
      have o3 : w4.cell? ⟨w1.heap.size, off + ((k : Int) / (K : Int)).toNat, none⟩ = some (.int .u8 (z : Int)) := by rw [eQ, Int.toNat_natCast]; exact o2
      have o4 : w4.cell? ⟨w1.heap.size, off + k / K, none⟩ = some (.int .u8 (z : Int)) := by rw [← hq]; exact o2
      clear hq hval eQ t2 o2 eK eR hz
      go_wp2
      go_quiet (fail)
      go_wp2
      go_roundw
      case rel => exact ⟨k + 1, _, by omega, by go_num, rfl⟩
      case measure => simp [intOf]; omega
    · go_wp2
      go_ret
      exact ⟨rfl, bdrew hbel _⟩
end Go.Proofs.Qxb6602560a
