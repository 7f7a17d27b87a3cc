import Derived.Test.Qxb6602560aHold
namespace Go.Proofs.Qxb6602560a
open Go.ChangeShapes Go.WideShapes Go.ChangeAt Go.RowKit
set_option linter.unusedVariables false

set_option maxHeartbeats 400000 in
theorem parts_any (lo hi : Int) (wl wh : Nat) (w : World) :
    Calls Try.prog 22 #[.agg #[.int .i64 lo, .int .i64 hi, .float .f32 wl, .float .f32 wh]] w fun e w' => e = .returned (.tuple #[.int .i64 lo, .int .i64 hi, .float .f32 wl, .float .f32 wh]) ∧ Below w.heap.size w w' := by
  go_enter Try.func22, Try.ntmps22
  go_wp2
  go_quiet (fail)
  go_wp2
  exact bodyPost_ret (v := .tuple #[.int .i64 lo, .int .i64 hi, .float .f32 wl, .float .f32 wh]) (by simp [results, Try.results22, go_sem]) rfl ⟨rfl, bdrew ((Below.refl _ _).alloc (Nat.le_refl _) _) _⟩

theorem share_eq {X n : Nat} (hX : X = 0) (hn1 : 1 ≤ n) (hn : n ≤ 65536) : FloatKind.f32.format.order (fdiv (f32 X) (f32 n)) 0 = some .eq := by
  obtain ⟨_, c, h1, h2, h3, h4, h5⟩ := fdiv_spec X n (by omega) hn1 (by omega)
  exact (Fl.order_is h1.is isp_zero.is).2.1 (h5 hX)
theorem share_gt {X n : Nat} (hX : 0 < X) (hXn : X ≤ n) (hn1 : 1 ≤ n) (hn : n ≤ 65536) : FloatKind.f32.format.order (fdiv (f32 X) (f32 n)) 0 = some .gt := by
  obtain ⟨_, c, h1, h2, h3, h4, h5⟩ := fdiv_spec X n (by omega) hn1 (by omega)
  exact (Fl.order_is h1.is isp_zero.is).2.2 (near_pos hX hn1 hn h3)

/-- What is known of cover i. -/
theorem cover_facts (n m i : Nat) (hn1 : 1 ≤ n) (hm1 : 1 ≤ m) (hi : i < m) :
    i * n ≤ cLo n m i * m ∧ cLo n m i * m < i * n + m ∧ cHi n m i * m ≤ i * n + n ∧ i * n + n < cHi n m i * m + m ∧ cLo n m i ≤ n ∧ cHi n m i ≤ n := by
  have hb : cLo n m i * m ≤ i * n + m - 1 ∧ i * n ≤ cLo n m i * m := by
    have h1 := Nat.div_add_mod (i * n + m - 1) m
    have h2 := Nat.mod_lt (i * n + m - 1) (show 0 < m by omega)
    unfold cLo; rw [Nat.mul_comm ((i * n + m - 1) / m)]; omega
  have hc : cHi n m i * m ≤ (i + 1) * n ∧ (i + 1) * n < cHi n m i * m + m := by
    have h1 := Nat.div_add_mod ((i + 1) * n) m
    have h2 := Nat.mod_lt ((i + 1) * n) (show 0 < m by omega)
    unfold cHi; rw [Nat.mul_comm ((i + 1) * n / m)]; omega
  have hin : (i + 1) * n = i * n + n := by rw [Nat.add_mul]; omega
  have a2 : (i + 1) * n ≤ m * n := Nat.mul_le_mul_right n (by omega)
  have hmn : m * n = n * m := Nat.mul_comm _ _
  refine ⟨hb.2, by omega, by omega, by omega, ?_, ?_⟩
  · rcases Nat.lt_or_ge n (cLo n m i) with h | h
    · have a1 : (n + 1) * m ≤ cLo n m i * m := Nat.mul_le_mul_right m h
      rw [Nat.add_mul] at a1; omega
    · exact h
  · rcases Nat.lt_or_ge n (cHi n m i) with h | h
    · have a1 : (n + 1) * m ≤ cHi n m i * m := Nat.mul_le_mul_right m h
      rw [Nat.add_mul] at a1; omega
    · exact h

set_option maxRecDepth 100000 in
set_option maxHeartbeats 4000000 in
theorem hold_any (g n m : Nat) (w : World) (hn1 : 1 ≤ n) (hn : n ≤ 65536) (hm : m ≤ 65536) (hg : g < w.heap.size) (hcov : ∀ i, i < m → CovAt w g n m i) :
    Calls Try.prog 16 #[.slice (some ⟨g, 0, none⟩) m m, .int .i64 n, .int .i64 m, .float .f32 (fdiv (f32 m) (f32 n))] w fun e w' => e = .returned (.bool true) ∧ Below w.heap.size w w' := by
  have HCOV : Hid (∀ i, i < m → CovAt w g n m i) := hcov
  clear hcov
  have hmm : ((m : Int) != (m : Int)) = false := by simp
  generalize hfull : fdiv (f32 m) (f32 n) = full
  have HF : Hid (fdiv (f32 m) (f32 n) = full) := hfull
  clear hfull
  go_enter Try.func16, Try.ntmps16
  go_wp2
  go_loopw [11] (fun i wr => ∃ k : Nat, k ≤ m ∧ i = .int .i64 k ∧ Below w.heap.size w wr) (fun i _ => m - (intOf i).toNat)
  case atStart => exact ⟨0, Nat.zero_le _, rfl, Below.refl _ _⟩
  case round =>
    obtain ⟨k, hk, rfl, hB⟩ := hrel
    by_cases hlt : k < m
    · obtain ⟨q0, q1, q2, q3⟩ := HCOV.out k hlt
      have hc : ∀ o, wr.cell? ⟨g, o, none⟩ = w.cell? ⟨g, o, none⟩ := fun o => hB.cell (p := ⟨g, o, none⟩) hg
      rw [← hc] at q0 q1 q2 q3
      clear hc
      obtain ⟨f1, f2, f3, f4, f5, f6⟩ := cover_facts n m k hn1 (by omega) hlt
      have hbs := hB.size
      have hSb : k * n ≤ 65536 * 65536 := Nat.mul_le_mul (by omega) hn
      by_cases hgt : cHi n m k < cLo n m k
      · have e1 : cvHi n m k = cLo n m k := by unfold cvHi; rw [if_pos hgt]
        have e2 : cvWl n m k = 1065353216 := by unfold cvWl; rw [if_pos hgt]
        have e3 : cvWh n m k = 0 := by unfold cvWh; rw [if_pos hgt]
        rw [e1] at q1
        rw [e2] at q2
        rw [e3] at q3
        have hlo1 : 1 ≤ cLo n m k := by omega
        have hgt2 : k * n + n < cLo n m k * m := by
          have : (cHi n m k + 1) * m ≤ cLo n m k * m := Nat.mul_le_mul_right m hgt
          rw [Nat.add_mul] at this; omega
        clear hgt e1 e2 e3 f3 f4 f6
        generalize cLo n m k = L at *
        obtain ⟨S, hS⟩ : ∃ S : Nat, S = k * n := ⟨_, rfl⟩
        obtain ⟨LM, hLM⟩ : ∃ LM : Nat, LM = L * m := ⟨_, rfl⟩
        have eS : (k : Int) * (n : Int) = (S : Int) := by rw [hS]; exact (Int.natCast_mul k n).symm
        have eLM : (L : Int) * (m : Int) = (LM : Int) := by rw [hLM]; exact (Int.natCast_mul L m).symm
        have eL1 : ((L : Int) - 1) * (m : Int) = (LM : Int) - (m : Int) := by rw [Int.sub_mul, eLM]; omega
        rw [← hS] at f1 f2 hgt2 hSb
        rw [← hLM] at f1 f2 hgt2
        clear hS hLM
        obtain ⟨o1, o2, o3, o4⟩ := one_facts
        go_wp2_with fail
        refine (parts_any L L 1065353216 0 wr).mono ?_
        rintro e w1 ⟨rfl, hB1⟩
        have HB : Below w.heap.size w w1 := hB.trans (hB1.mono hbs)
        clear hB1 q0 q1 q2 q3
        go_wp2
        go_roundw
        case rel => exact ⟨k + 1, by omega, by go_num, HB⟩
        case measure => simp [intOf]; omega
      · have e1 : cvHi n m k = cHi n m k := by unfold cvHi; rw [if_neg hgt]
        have e2 : cvWl n m k = fdiv (f32 (cLo n m k * m - k * n)) (f32 n) := by unfold cvWl; rw [if_neg hgt]
        have e3 : cvWh n m k = fdiv (f32 (k * n + n - cHi n m k * m)) (f32 n) := by unfold cvWh; rw [if_neg hgt, Nat.add_mul, Nat.one_mul]
        rw [e1] at q1
        rw [e2] at q2
        rw [e3] at q3
        have hle : cLo n m k ≤ cHi n m k := by omega
        have hkm : (cHi n m k - cLo n m k) * m + cLo n m k * m = cHi n m k * m := by rw [← Nat.add_mul]; congr 1; omega
        have hLMle : cLo n m k * m ≤ cHi n m k * m := Nat.mul_le_mul_right m hle
        have hlo1 : k * n < cLo n m k * m → 1 ≤ cLo n m k := by
          intro h
          rcases Nat.eq_zero_or_pos (cLo n m k) with h0 | h0
          · rw [h0] at h; simp at h
          · exact h0
        have hhi1 : cHi n m k * m < k * n + n → cHi n m k < n := by
          intro h
          rcases Nat.lt_or_ge (cHi n m k) n with h1 | h1
          · exact h1
          · have a1 : n * m ≤ cHi n m k * m := Nat.mul_le_mul_right m h1
            have a2 : (k + 1) * n ≤ m * n := Nat.mul_le_mul_right n (by omega)
            rw [Nat.mul_comm m n, Nat.add_mul, Nat.one_mul] at a2
            omega
        clear hgt e1 e2 e3
        generalize cLo n m k = L at *
        generalize cHi n m k = H at *
        obtain ⟨S, hS⟩ : ∃ S : Nat, S = k * n := ⟨_, rfl⟩
        obtain ⟨LM, hLM⟩ : ∃ LM : Nat, LM = L * m := ⟨_, rfl⟩
        obtain ⟨HM, hHM⟩ : ∃ HM : Nat, HM = H * m := ⟨_, rfl⟩
        have eS : (k : Int) * (n : Int) = (S : Int) := by rw [hS]; exact (Int.natCast_mul k n).symm
        have eLM : (L : Int) * (m : Int) = (LM : Int) := by rw [hLM]; exact (Int.natCast_mul L m).symm
        have eL1 : ((L : Int) - 1) * (m : Int) = (LM : Int) - (m : Int) := by rw [Int.sub_mul, eLM]; omega
        have eHM : (H : Int) * (m : Int) = (HM : Int) := by rw [hHM]; exact (Int.natCast_mul H m).symm
        have eH1 : ((H : Int) + 1) * (m : Int) = (HM : Int) + (m : Int) := by rw [Int.add_mul, eHM]; omega
        rw [← hS] at f1 f2 f3 f4 hSb q2 q3 hlo1 hhi1
        rw [← hLM] at f1 f2 q2 hkm hLMle hlo1
        rw [← hHM] at f3 f4 q3 hkm hLMle hhi1
        clear hS hLM hHM
        obtain ⟨X, hX⟩ : ∃ X : Nat, X = LM - S := ⟨_, rfl⟩
        obtain ⟨Y, hY⟩ : ∃ Y : Nat, Y = S + n - HM := ⟨_, rfl⟩
        rw [← hX] at q2
        rw [← hY] at q3
        have hXn : X ≤ n := by omega
        have hYn : Y ≤ n := by omega
        obtain ⟨_, _, x3⟩ := share X n hXn hn1 hn
        obtain ⟨_, _, y3⟩ := share Y n hYn hn1 hn
        have x1 : (0 < X → FloatKind.f32.format.order (fdiv (f32 X) (f32 n)) 0 = some .gt) ∧ (X = 0 → FloatKind.f32.format.order (fdiv (f32 X) (f32 n)) 0 = some .eq) := ⟨fun h => share_gt h hXn hn1 hn, fun h => share_eq h hn1 hn⟩
        have y1 : (0 < Y → FloatKind.f32.format.order (fdiv (f32 Y) (f32 n)) 0 = some .gt) ∧ (Y = 0 → FloatKind.f32.format.order (fdiv (f32 Y) (f32 n)) 0 = some .eq) := ⟨fun h => share_gt h hYn hn1 hn, fun h => share_eq h hn1 hn⟩
        obtain ⟨A, B, P, S1, C, S2, T, t1, t2, t3, t4, t5, t6, t7, t8, t9⟩ := hold_t X Y (H - L) n m hn1 hn (by omega) hm (by omega) (by omega)
        rw [HF.out] at t2
        generalize fdiv (f32 X) (f32 n) = wl at *
        generalize fdiv (f32 Y) (f32 n) = wh at *
        have eHL : (H : Int) - (L : Int) = ((H - L : Nat) : Int) := by omega
        generalize H - L = D at eHL t3 hkm
        clear hkm
        have g1 := fun W => run_convert_float_float (P := Try.prog) W 28 33 .f32 .f64 wl A rfl Try.underlying33 t1
        have g2 := fun W => run_convert_float_float (P := Try.prog) W 28 33 .f32 .f64 full B rfl Try.underlying33 t2
        have g3 := fun W => run_float_arith (P := Try.prog) W .mul 33 .f64 _ _ _ t3
        have g4 := fun W => run_float_arith (P := Try.prog) W .add 33 .f64 _ _ _ t4
        have g5 := fun W => run_convert_float_float (P := Try.prog) W 28 33 .f32 .f64 wh C rfl Try.underlying33 t5
        have g6 := fun W => run_float_arith (P := Try.prog) W .add 33 .f64 _ _ _ t6
        have g7 := fun W => run_float_arith (P := Try.prog) W .sub 33 .f64 _ _ _ t7
        have HXX : Hid (X = LM - S) := hX
        have HYY : Hid (Y = S + n - HM) := hY
        clear t1 t2 t3 t4 t5 t6 t7 hX hY
        by_cases hx0 : S < LM
        · have hL1 := hlo1 hx0
          have x1' := x1.1 (by have := HXX.out; omega)
          have dX : decide ((S : Int) < (LM : Int)) = true := decide_eq_true (by omega)
          clear x1 hlo1
          by_cases hy0 : HM < S + n
          · have hH1 := hhi1 hy0
            have y1' := y1.1 (by have := HYY.out; omega)
            have dY : decide ((HM : Int) < (S : Int) + (n : Int)) = true := decide_eq_true (by omega)
            clear y1 hhi1
            go_wp2_with fail
            refine (parts_any L H wl wh wr).mono ?_
            rintro e w1 ⟨rfl, hB1⟩
            have HB : Below w.heap.size w w1 := hB.trans (hB1.mono hbs)
            clear hB1 q0 q1 q2 q3
            go_wp2
            go_roundw
            case rel => exact ⟨k + 1, by omega, by go_num, HB⟩
            case measure => simp [intOf]; omega
          · have hH1 : HM = S + n := by omega
            have y1' := y1.2 (by have := HYY.out; omega)
            have dY : decide ((HM : Int) < (S : Int) + (n : Int)) = false := decide_eq_false (by omega)
            have HE : Hid (HM = S + n) := hH1
            clear y1 hhi1 hH1
            go_wp2_with fail
            refine (parts_any L H wl wh wr).mono ?_
            rintro e w1 ⟨rfl, hB1⟩
            have HB : Below w.heap.size w w1 := hB.trans (hB1.mono hbs)
            clear hB1 q0 q1 q2 q3
            go_wp2
            go_roundw
            case rel => exact ⟨k + 1, by omega, by go_num, HB⟩
            case measure => simp [intOf]; omega
        · have hL1 : LM = S := by omega
          have HE1 : Hid (LM = S) := hL1
          have x1' := x1.2 (by have := HXX.out; omega)
          have dX : decide ((S : Int) < (LM : Int)) = false := decide_eq_false (by omega)
          have dX2 : decide (S < LM) = false := decide_eq_false (by omega)
          clear x1 hlo1 hL1
          by_cases hy0 : HM < S + n
          · have hH1 := hhi1 hy0
            have y1' := y1.1 (by have := HYY.out; omega)
            have dY : decide ((HM : Int) < (S : Int) + (n : Int)) = true := decide_eq_true (by omega)
            clear y1 hhi1
            go_wp2_with fail
            refine (parts_any L H wl wh wr).mono ?_
            rintro e w1 ⟨rfl, hB1⟩
            have HB : Below w.heap.size w w1 := hB.trans (hB1.mono hbs)
            clear hB1 q0 q1 q2 q3
            go_wp2
            go_roundw
            case rel => exact ⟨k + 1, by omega, by go_num, HB⟩
            case measure => simp [intOf]; omega
          · have hH1 : HM = S + n := by omega
            have y1' := y1.2 (by have := HYY.out; omega)
            have dY : decide ((HM : Int) < (S : Int) + (n : Int)) = false := decide_eq_false (by omega)
            have HE : Hid (HM = S + n) := hH1
            clear y1 hhi1 hH1
            go_wp2_with fail
            refine (parts_any L H wl wh wr).mono ?_
            rintro e w1 ⟨rfl, hB1⟩
            have HB : Below w.heap.size w w1 := hB.trans (hB1.mono hbs)
            clear hB1 q0 q1 q2 q3
            go_wp2
            go_roundw
            case rel => exact ⟨k + 1, by omega, by go_num, HB⟩
            case measure => simp [intOf]; omega
    · go_wp2
      go_ret
      exact ⟨rfl, hB⟩
end Go.Proofs.Qxb6602560a
