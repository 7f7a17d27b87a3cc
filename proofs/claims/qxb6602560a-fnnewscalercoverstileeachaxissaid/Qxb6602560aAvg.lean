/- What scaleAcross computes for one sample is near the average of what the sample covers. -/
import Derived.Test.Qxb6602560aOnes
import Derived.Test.Qxb6602560aMerge
namespace Go.Proofs.Qxb6602560a
open Fl
set_option linter.unusedVariables false

theorem ulpS : ulp Ieee.single = 1 / 16777216 := by
  have h : p2 (-24) * p2 ((24 : Nat) : Int) = p2 0 := by rw [← p2_add]; rfl
  rw [p2_nat, p2_zero] at h
  have e : ((2 ^ 24 : Nat) : Rat) = 16777216 := rfl
  rw [e] at h
  show p2 (-24) = _
  grind
theorem tinyS : tiny Ieee.single ≤ 1 / 1152921504606846976 := by
  have h : p2 (-60) * p2 ((60 : Nat) : Int) = p2 0 := by rw [← p2_add]; rfl
  rw [p2_nat, p2_zero] at h
  have e : ((2 ^ 60 : Nat) : Rat) = 1152921504606846976 := rfl
  rw [e] at h
  have h2 : tiny Ieee.single ≤ p2 (-60) := p2_mono (by decide)
  grind

theorem le_of_mul {a b n : Rat} (hn : 0 < n) (h : a * n ≤ b * n) : a ≤ b := by
  rcases lt_or_le' b a with h1 | h1
  · have := Rat.mul_lt_mul_of_pos_right h1 hn; grind
  · exact h1
theorem eq_of_mul {a b n : Rat} (hn : 0 < n) (h : a * n = b * n) : a = b := by
  have h1 := le_of_mul hn (show a * n ≤ b * n by grind)
  have h2 := le_of_mul hn (show b * n ≤ a * n by grind)
  grind

theorem mul_near {x W : Nat} {c α : Rat} (hx : Isp Ieee.single x c) (hW : W ≤ 8388608) (hα : 0 ≤ α) (h1 : c ≤ α + (2 * (α * ulp Ieee.single) + tiny Ieee.single)) (h2 : α ≤ c + (2 * (α * ulp Ieee.single) + tiny Ieee.single)) (hb : α * (W : Rat) ≤ 255) :
    ∃ r v, floatBits .mul .f32 x (floatOfInt .f32 (W : Int)) = some r ∧ Isp Ieee.single r v ∧ v ≤ α * (W : Rat) + 800 / 16777216 ∧ α * (W : Rat) ≤ v + 800 / 16777216 ∧ v ≤ 256 := by
  have hw0 : (0 : Rat) ≤ (W : Rat) := cast_nn W
  have hw1 : (W : Rat) ≤ 8388608 := by
    have := cast_le hW
    have e : ((8388608 : Nat) : Rat) = 8388608 := rfl
    grind
  have ht := tinyS
  have ht0 := tiny_pos Ieee.single
  have hu := ulpS
  rw [hu] at h1 h2
  generalize tiny Ieee.single = t at *
  have m1 := Rat.mul_le_mul_of_nonneg_right h1 hw0
  have m2 := Rat.mul_le_mul_of_nonneg_right h2 hw0
  have tw : t * (W : Rat) ≤ 1 / 1152921504606846976 * 8388608 := by
    have a1 := Rat.mul_le_mul_of_nonneg_right ht hw0
    have a2 := Rat.mul_le_mul_of_nonneg_left hw1 (show (0 : Rat) ≤ 1 / 1152921504606846976 by grind)
    grind
  have tw0 : 0 ≤ t * (W : Rat) := Rat.mul_nonneg (by grind) hw0
  have haw0 : 0 ≤ α * (W : Rat) := Rat.mul_nonneg hα hw0
  have e1 : (α + (2 * (α * (1 / 16777216)) + t)) * (W : Rat) = α * (W : Rat) + (2 * (α * (W : Rat)) * (1 / 16777216) + t * (W : Rat)) := by grind
  have e2 : (c + (2 * (α * (1 / 16777216)) + t)) * (W : Rat) = c * (W : Rat) + (2 * (α * (W : Rat)) * (1 / 16777216) + t * (W : Rat)) := by grind
  rw [e1] at m1
  rw [e2] at m2
  have hp : c * (W : Rat) ≤ 255 + 1 / 16384 := by grind
  obtain ⟨r, v, r1, r2, r3, r4⟩ := mul_isp good_single hx (of32 W (by omega)) (top_big (by grind))
  rw [hu] at r3 r4
  have ht' := tinyS
  have ht0' := tiny_pos Ieee.single
  generalize tiny Ieee.single = t' at *
  refine ⟨r, v, r1, r2, by grind, by grind, by grind⟩

theorem add_near {x y : Nat} {a b : Rat} (hx : Isp Ieee.single x a) (hy : Isp Ieee.single y b) (h : a + b ≤ 1000) :
    ∃ r v, floatBits .add .f32 x y = some r ∧ Isp Ieee.single r v ∧ v ≤ a + b + 1001 / 16777216 ∧ a + b ≤ v + 1001 / 16777216 := by
  obtain ⟨r, v, r1, r2, r3, r4⟩ := add_isp good_single hx hy (top_big (by grind))
  have hu := ulpS
  have ht := tinyS
  rw [hu] at r3 r4
  generalize tiny Ieee.single = t at *
  refine ⟨r, v, r1, r2, by grind, by grind⟩

theorem near_pos {X n : Nat} {c : Rat} (hX : 0 < X) (hn1 : 1 ≤ n) (hn : n ≤ 65536) (h : (X : Rat) / (n : Rat) ≤ c + (2 * ((X : Rat) / (n : Rat) * ulp Ieee.single) + tiny Ieee.single)) : 0 < c := by
  have hn0 : (0 : Rat) < (n : Rat) := by exact_mod_cast (by omega : 0 < n)
  have hq : (X : Rat) / (n : Rat) * (n : Rat) = (X : Rat) := Rat.div_mul_cancel (by grind)
  have hX1 : (1 : Rat) ≤ (X : Rat) := by exact_mod_cast hX
  have hnb : (n : Rat) ≤ 65536 := by
    have := cast_le hn
    have e : ((65536 : Nat) : Rat) = 65536 := rfl
    grind
  have hlow : (1 : Rat) / 65536 ≤ (X : Rat) / (n : Rat) := le_of_mul hn0 (by rw [hq]; grind)
  have hu := ulpS
  have ht := tinyS
  rw [hu] at h
  generalize tiny Ieee.single = t at *
  grind

/-- One sample: the value that scaleAcross computes, and how near it lies. -/
theorem avg_step (l : List Nat) (n m i : Nat) (hl : n = l.length) (hn1 : 1 ≤ n) (hnb : n ≤ 32768) (hm1 : 1 ≤ m) (hmb : m ≤ 32768) (hi : i < m) (hby : ∀ i, i < l.length → l.getD i 0 ≤ 255) :
    (cLo n m i ≤ cvHi n m i ∧ cvHi n m i ≤ n) ∧ ∃ r v, Step l (fdiv (f32 m) (f32 n)) (cLo n m i) (cvHi n m i) (cvWl n m i) (cvWh n m i) r ∧ Isp Ieee.single r v ∧
      v ≤ (takes l n m i : Rat) / (n : Rat) + 1 / 2048 ∧ (takes l n m i : Rat) / (n : Rat) ≤ v + 1 / 2048 := by
  have hn0 : (0 : Rat) < (n : Rat) := by exact_mod_cast (by omega : 0 < n)
  have htq : (takes l n m i : Rat) / (n : Rat) * (n : Rat) = (takes l n m i : Rat) := Rat.div_mul_cancel (by grind)
  obtain ⟨_, cf, hcf, hf1, hf2, _, _⟩ := fdiv_spec m n (by omega) hn1 (by omega)
  by_cases hlt : cHi n m i < cLo n m i
  · obtain ⟨q1, q2, q3⟩ := takes_inside l n m i hn1 hm1 hi hlt
    have hcv : cvHi n m i = cLo n m i := by unfold cvHi; rw [if_pos hlt]
    have hwl : cvWl n m i = 1065353216 := by unfold cvWl; rw [if_pos hlt]
    have hwh : cvWh n m i = 0 := by unfold cvWh; rw [if_pos hlt]
    obtain ⟨r, s1, s2⟩ := step_lo (l := l) hcf isp_one isp_zero q2 (by omega) (hby _ (by omega))
    rw [hcv, hwl, hwh]
    have e : (takes l n m i : Rat) / (n : Rat) = ((l.getD (cLo n m i - 1) 0 : Nat) : Rat) := eq_of_mul hn0 (by rw [htq, q1, Rat.natCast_mul]; grind)
    refine ⟨⟨Nat.le_refl _, q3⟩, r, _, s1, s2, ?_, ?_⟩
    · rw [e]; grind
    · rw [e]; grind
  · obtain ⟨q1, q2, q3, q4, q5, q6, q7⟩ := takes_cover l n m i hn1 hm1 hi (by omega)
    have hcv : cvHi n m i = cHi n m i := by unfold cvHi; rw [if_neg hlt]
    have hwl : cvWl n m i = fdiv (f32 (cLo n m i * m - i * n)) (f32 n) := by unfold cvWl; rw [if_neg hlt]
    have hwh : cvWh n m i = fdiv (f32 ((i + 1) * n - cHi n m i * m)) (f32 n) := by unfold cvWh; rw [if_neg hlt]
    rw [hcv, hwl, hwh]
    have hle : cLo n m i ≤ cHi n m i := by omega
    have hhiend : 0 < (i + 1) * n - cHi n m i * m → cHi n m i < n := by
      intro h
      rcases Nat.lt_or_ge (cHi n m i) n with h1 | h1
      · exact h1
      · have a1 : n * m ≤ cHi n m i * m := Nat.mul_le_mul_right m h1
        have a2 : (i + 1) * n ≤ m * n := Nat.mul_le_mul_right n (by omega)
        rw [Nat.mul_comm m n] at a2
        omega
    have hlo1 : 0 < cLo n m i * m - i * n → 1 ≤ cLo n m i := by
      intro h
      rcases Nat.eq_zero_or_pos (cLo n m i) with h0 | h0
      · rw [h0] at h; simp at h
      · exact h0
    obtain ⟨_, cl, hcl, hl1, hl2, _, hl0⟩ := fdiv_spec (cLo n m i * m - i * n) n (by omega) hn1 (by omega)
    obtain ⟨_, ch, hch, hh1, hh2, _, hh0⟩ := fdiv_spec ((i + 1) * n - cHi n m i * m) n (by omega) hn1 (by omega)
    have hsb := sumB_le l hby (cLo n m i) (cHi n m i - cLo n m i) (by omega)
    generalize cLo n m i = lo at *
    generalize cHi n m i = hi' at *
    generalize hX : lo * m - i * n = X at *
    generalize hY : (i + 1) * n - hi' * m = Y at *
    generalize hWe : sumB l lo (hi' - lo) = W at *
    -- the three parts
    have ea : (m : Rat) / (n : Rat) * (n : Rat) = (m : Rat) := Rat.div_mul_cancel (by grind)
    have eb : (X : Rat) / (n : Rat) * (n : Rat) = (X : Rat) := Rat.div_mul_cancel (by grind)
    have ec : (Y : Rat) / (n : Rat) * (n : Rat) = (Y : Rat) := Rat.div_mul_cancel (by grind)
    have nn : ∀ k : Nat, (0 : Rat) ≤ (k : Rat) / (n : Rat) := fun k => le_of_mul hn0 (by
      have : (k : Rat) / (n : Rat) * (n : Rat) = (k : Rat) := Rat.div_mul_cancel (by grind)
      have := cast_nn k
      grind)
    have hWb : W ≤ 8388608 := by omega
    have bound : ∀ A B : Nat, A * B ≤ 255 * n → (A : Rat) / (n : Rat) * (B : Rat) ≤ 255 := fun A B h => le_of_mul hn0 (by
      have e : (A : Rat) / (n : Rat) * (n : Rat) = (A : Rat) := Rat.div_mul_cancel (by grind)
      have h' := cast_le h
      rw [Rat.natCast_mul, Rat.natCast_mul] at h'
      have e2 : (A : Rat) / (n : Rat) * (B : Rat) * (n : Rat) = (A : Rat) * (B : Rat) := by
        rw [← e]; grind
      have e3 : ((255 : Nat) : Rat) = 255 := rfl
      grind)
    have hmW : m * W ≤ 255 * n := by
      have a1 : m * W ≤ m * (255 * (hi' - lo)) := Nat.mul_le_mul_left m hsb
      have a2 : m * (255 * (hi' - lo)) = 255 * ((hi' - lo) * m) := by
        rw [Nat.mul_left_comm, Nat.mul_comm m]
      have a3 : 255 * ((hi' - lo) * m) ≤ 255 * n := Nat.mul_le_mul_left 255 (by omega)
      omega
    have hXn : X ≤ n := by omega
    have hYn : Y ≤ n := by omega
    obtain ⟨v0, f0, s1, s2, s3, s4, s5⟩ := mul_near hcf hWb (nn m) hf1 hf2 (bound m W hmW)
    -- behind the sample before lo
    have part1 : ∃ v1 f1, ((FloatKind.f32.format.order (fdiv (f32 X) (f32 n)) 0 == some .gt) = false ∧ v1 = v0 ∨
        (FloatKind.f32.format.order (fdiv (f32 X) (f32 n)) 0 == some .gt) = true ∧ 1 ≤ lo ∧ lo - 1 < l.length ∧ ∃ p, floatBits .mul .f32 (fdiv (f32 X) (f32 n)) (floatOfInt .f32 ((l.getD (lo - 1) 0 : Nat) : Int)) = some p ∧ floatBits .add .f32 v0 p = some v1) ∧
        Isp Ieee.single v1 f1 ∧ f1 ≤ (m : Rat) / (n : Rat) * (W : Rat) + (X : Rat) / (n : Rat) * ((l.getD (lo - 1) 0 : Nat) : Rat) + 2601 / 16777216 ∧ (m : Rat) / (n : Rat) * (W : Rat) + (X : Rat) / (n : Rat) * ((l.getD (lo - 1) 0 : Nat) : Rat) ≤ f1 + 2601 / 16777216 ∧ f1 ≤ 513 := by
      rcases Nat.eq_zero_or_pos X with hX0 | hX0
      · subst hX0
        have hx0 : ((0 : Nat) : Rat) / (n : Rat) = 0 := eq_of_mul hn0 (by rw [eb]; simp)
        refine ⟨v0, f0, .inl ⟨not_gt hcl (hl0 rfl), rfl⟩, s2, ?_, ?_, by grind⟩
        · rw [hx0]; grind
        · rw [hx0]; grind
      · have hlo := hlo1 hX0
        have hlb := hby (lo - 1) (by omega)
        have hXa : X * l.getD (lo - 1) 0 ≤ 255 * n := by
          have a1 : X * l.getD (lo - 1) 0 ≤ n * 255 := Nat.mul_le_mul hXn hlb
          omega
        obtain ⟨p, fp, p1, p2', p3, p4, p5⟩ := mul_near hcl (by omega : l.getD (lo - 1) 0 ≤ 8388608) (nn X) hl1 hl2 (bound X _ hXa)
        obtain ⟨v1, f1, a1, a2, a3, a4⟩ := add_near s2 p2' (by grind)
        refine ⟨v1, f1, .inr ⟨is_gt hcl (near_pos hX0 hn1 (by omega) hl2), hlo, by omega, p, p1, a1⟩, a2, by grind, by grind, by grind⟩
    obtain ⟨v1, f1, t1, t2, t3, t4, t5⟩ := part1
    have part2 : ∃ r f2, ((FloatKind.f32.format.order (fdiv (f32 Y) (f32 n)) 0 == some .gt) = false ∧ r = v1 ∨
        (FloatKind.f32.format.order (fdiv (f32 Y) (f32 n)) 0 == some .gt) = true ∧ hi' < l.length ∧ ∃ p, floatBits .mul .f32 (fdiv (f32 Y) (f32 n)) (floatOfInt .f32 ((l.getD hi' 0 : Nat) : Int)) = some p ∧ floatBits .add .f32 v1 p = some r) ∧
        Isp Ieee.single r f2 ∧ f2 ≤ f1 + (Y : Rat) / (n : Rat) * ((l.getD hi' 0 : Nat) : Rat) + 1801 / 16777216 ∧ f1 + (Y : Rat) / (n : Rat) * ((l.getD hi' 0 : Nat) : Rat) ≤ f2 + 1801 / 16777216 := by
      rcases Nat.eq_zero_or_pos Y with hY0 | hY0
      · subst hY0
        have hy0 : ((0 : Nat) : Rat) / (n : Rat) = 0 := eq_of_mul hn0 (by rw [ec]; simp)
        refine ⟨v1, f1, .inl ⟨not_gt hch (hh0 rfl), rfl⟩, t2, ?_, ?_⟩
        · rw [hy0]; grind
        · rw [hy0]; grind
      · have hhi := hhiend hY0
        have hlb := hby hi' (by omega)
        have hYb : Y * l.getD hi' 0 ≤ 255 * n := by
          have a1 : Y * l.getD hi' 0 ≤ n * 255 := Nat.mul_le_mul hYn hlb
          omega
        obtain ⟨p, fp, p1, p2', p3, p4, p5⟩ := mul_near hch (by omega : l.getD hi' 0 ≤ 8388608) (nn Y) hh1 hh2 (bound Y _ hYb)
        obtain ⟨r, f2, a1, a2, a3, a4⟩ := add_near t2 p2' (by grind)
        refine ⟨r, f2, .inr ⟨is_gt hch (near_pos hY0 hn1 (by omega) hh2), by omega, p, p1, a1⟩, a2, by grind, by grind⟩
    obtain ⟨r, f2, u1, u2, u3, u4⟩ := part2
    have hsum : (takes l n m i : Rat) / (n : Rat) = (m : Rat) / (n : Rat) * (W : Rat) + (X : Rat) / (n : Rat) * ((l.getD (lo - 1) 0 : Nat) : Rat) + (Y : Rat) / (n : Rat) * ((l.getD hi' 0 : Nat) : Rat) := by
      refine eq_of_mul hn0 ?_
      rw [htq, q1, Rat.natCast_add, Rat.natCast_add, Rat.natCast_mul, Rat.natCast_mul, Rat.natCast_mul]
      rw [Rat.add_mul, Rat.add_mul]
      have g1 : (m : Rat) / (n : Rat) * (W : Rat) * (n : Rat) = (m : Rat) * (W : Rat) := by rw [← ea]; grind
      have g2 : (X : Rat) / (n : Rat) * ((l.getD (lo - 1) 0 : Nat) : Rat) * (n : Rat) = (X : Rat) * ((l.getD (lo - 1) 0 : Nat) : Rat) := by rw [← eb]; grind
      have g3 : (Y : Rat) / (n : Rat) * ((l.getD hi' 0 : Nat) : Rat) * (n : Rat) = (Y : Rat) * ((l.getD hi' 0 : Nat) : Rat) := by rw [← ec]; grind
      rw [g1, g2, g3]
    refine ⟨⟨hle, q6⟩, r, f2, ⟨v0, v1, by rw [hWe]; exact s1, t1, u1⟩, u2, ?_, ?_⟩
    · rw [hsum]; grind
    · rw [hsum]; grind
end Go.Proofs.Qxb6602560a
