/- The plain law of the whole upscale: each sample is one source byte, exactly. -/
import Derived.Test.Qxb6602560aAcross
namespace Go.Proofs.Qxb6602560a
open Fl
set_option linter.unusedVariables false

theorem isp_zero : Isp Ieee.single 0 0 := ⟨0, -149, by decide, by simp⟩
theorem isp_one : Isp Ieee.single 1065353216 1 := ⟨8388608, -23, by decide, by
  have h : p2 (-23) * ((2 ^ 23 : Nat) : Rat) = 1 := by rw [← p2_nat, ← p2_add]; rfl
  have e : ((8388608 : Nat) : Rat) = ((2 ^ 23 : Nat) : Rat) := rfl
  rw [e]; grind⟩

theorem pick (m : Nat) (P : Nat → Nat → Prop) (h : ∀ i, i < m → ∃ r, P i r) : ∃ f : Nat → Nat, ∀ i, i < m → P i (f i) :=
  ⟨fun i => if h' : i < m then Classical.choose (h i h') else 0, fun i hi => by simp only [hi, dif_pos]; exact Classical.choose_spec (h i hi)⟩

theorem top_big {v : Rat} (h : v ≤ 16777216) : v < p2 (topOf Ieee.single + 1) := by
  have h1 : p2 ((25 : Nat) : Int) ≤ p2 (topOf Ieee.single + 1) := p2_mono (by decide)
  rw [p2_nat] at h1
  have h2 : ((2 ^ 25 : Nat) : Rat) = 33554432 := rfl
  rw [h2] at h1
  have h3 : (16777216 : Rat) < 33554432 := by decide
  grind

theorem cast_byte {b : Nat} (h : b ≤ 255) : (b : Rat) ≤ 16777216 := by
  have h1 := cast_le h
  have h2 : ((255 : Nat) : Rat) ≤ 16777216 := by decide
  grind

theorem not_gt {x : Nat} {v : Rat} (h : Isp Ieee.single x v) (hv : v = 0) : (FloatKind.f32.format.order x 0 == some .gt) = false := by
  have := (order_is h.is isp_zero.is).2.1 hv
  show (Ieee.single.order x 0 == some .gt) = false
  rw [this]; rfl
theorem is_gt {x : Nat} {v : Rat} (h : Isp Ieee.single x v) (hv : 0 < v) : (FloatKind.f32.format.order x 0 == some .gt) = true := by
  have := (order_is h.is isp_zero.is).2.2 hv
  show (Ieee.single.order x 0 == some .gt) = true
  rw [this]; rfl

theorem mul_zero' {x : Nat} {c : Rat} (h : Isp Ieee.single x c) : ∃ r, floatBits .mul .f32 x (floatOfInt .f32 ((0 : Nat) : Int)) = some r ∧ Isp Ieee.single r 0 := by
  have h0 := of32 0 (by omega)
  have e : c * ((0 : Nat) : Rat) = 0 := by simp
  obtain ⟨r, h1, h2⟩ := mul_rep good_single h h0 (top_big (by rw [e]; decide)) 0 0 (by rw [e]; simp) (by decide) (by decide)
  rw [e] at h2
  exact ⟨r, h1, h2⟩

theorem mul_one' {x b : Nat} (h : Isp Ieee.single x 1) (hb : b ≤ 255) : ∃ r, floatBits .mul .f32 x (floatOfInt .f32 (b : Int)) = some r ∧ Isp Ieee.single r (b : Rat) := by
  have h0 := of32 b (by omega)
  have e : 1 * (b : Rat) = (b : Rat) := by grind
  obtain ⟨r, h1, h2⟩ := mul_rep good_single h h0 (top_big (by rw [e]; exact cast_byte hb)) b 0 (by rw [e, p2_zero]; grind) (Nat.lt_of_le_of_lt hb (by decide)) (by decide)
  rw [e] at h2
  exact ⟨r, h1, h2⟩

theorem add_zero' {x y b : Nat} (hx : Isp Ieee.single x 0) (hy : Isp Ieee.single y (b : Rat)) (hb : b ≤ 255) : ∃ r, floatBits .add .f32 x y = some r ∧ Isp Ieee.single r (b : Rat) := by
  have e : 0 + (b : Rat) = (b : Rat) := by grind
  obtain ⟨r, h1, h2⟩ := add_rep good_single hx hy (top_big (by rw [e]; exact cast_byte hb)) b 0 (by rw [e, p2_zero]; grind) (Nat.lt_of_le_of_lt hb (by decide)) (by decide)
  rw [e] at h2
  exact ⟨r, h1, h2⟩

/-- A cover that takes the sample before lo whole. -/
theorem step_lo {l : List Nat} {full lo wl wh : Nat} {c : Rat} (hf : Isp Ieee.single full c) (hwl : Isp Ieee.single wl 1) (hwh : Isp Ieee.single wh 0) (h1 : 1 ≤ lo) (h2 : lo - 1 < l.length) (hb : l.getD (lo - 1) 0 ≤ 255) :
    ∃ r, Step l full lo lo wl wh r ∧ Isp Ieee.single r ((l.getD (lo - 1) 0 : Nat) : Rat) := by
  obtain ⟨v0, a1, a2⟩ := mul_zero' hf
  obtain ⟨p, b1, b2⟩ := mul_one' hwl hb
  obtain ⟨v1, c1, c2⟩ := add_zero' a2 b2 hb
  exact ⟨v1, ⟨v0, v1, by rw [Nat.sub_self]; exact a1, .inr ⟨is_gt hwl (by decide), h1, h2, p, b1, c1⟩, .inl ⟨not_gt hwh rfl, rfl⟩⟩, c2⟩

/-- A cover that takes the sample at hi whole. -/
theorem step_hi {l : List Nat} {full hi wl wh : Nat} {c : Rat} (hf : Isp Ieee.single full c) (hwl : Isp Ieee.single wl 0) (hwh : Isp Ieee.single wh 1) (h2 : hi < l.length) (hb : l.getD hi 0 ≤ 255) :
    ∃ r, Step l full hi hi wl wh r ∧ Isp Ieee.single r ((l.getD hi 0 : Nat) : Rat) := by
  obtain ⟨v0, a1, a2⟩ := mul_zero' hf
  obtain ⟨p, b1, b2⟩ := mul_one' hwh hb
  obtain ⟨v1, c1, c2⟩ := add_zero' a2 b2 hb
  exact ⟨v1, ⟨v0, v0, by rw [Nat.sub_self]; exact a1, .inl ⟨not_gt hwl rfl, rfl⟩, .inr ⟨is_gt hwh (by decide), h2, p, b1, c1⟩⟩, c2⟩

theorem fdiv_zero (n : Nat) (hn1 : 1 ≤ n) (hn : n < 16777216) : Isp Ieee.single (fdiv (f32 0) (f32 n)) 0 := by
  obtain ⟨_, c, h, _, _, _, h0⟩ := fdiv_spec 0 n (by omega) hn1 hn
  exact h.of_eq (h0 rfl)
theorem fdiv_one (n : Nat) (hn1 : 1 ≤ n) (hn : n < 16777216) : Isp Ieee.single (fdiv (f32 n) (f32 n)) 1 := by
  have hp : (0 : Rat) < (n : Rat) := by exact_mod_cast (by omega : 0 < n)
  obtain ⟨r, h1, h2⟩ := div_self good_single (by decide) (of32 n hn) hp
  have : fdiv (f32 n) (f32 n) = r := by unfold fdiv f32; rw [h1]; rfl
  rw [this]; exact h2

theorem div_place {a m q r : Nat} (h : a = m * q + r) (hr : r < m) : a / m = q := by
  subst h
  have hm : 0 < m := by omega
  rw [Nat.mul_add_div hm, Nat.div_eq_of_lt hr, Nat.add_zero]

/-- The covers of a whole upscale by K: what sample i takes. -/
theorem upscale (l : List Nat) (n K i : Nat) (hn : n = l.length) (hn1 : 1 ≤ n) (hnb : n ≤ 65536) (hK : 2 ≤ K) (hi : i < K * n) (hb : ∀ i, i < l.length → l.getD i 0 ≤ 255) (full : Nat) {c : Rat} (hf : Isp Ieee.single full c) :
    (cLo n (K * n) i ≤ cvHi n (K * n) i ∧ cvHi n (K * n) i ≤ n) ∧ ∃ r, Step l full (cLo n (K * n) i) (cvHi n (K * n) i) (cvWl n (K * n) i) (cvWh n (K * n) i) r ∧ Isp Ieee.single r ((l.getD (i / K) 0 : Nat) : Rat) := by
  have hq : i / K < n := Nat.div_lt_of_lt_mul hi
  have hdm := Nat.div_add_mod i K
  have hrK := Nat.mod_lt i (show 0 < K by omega)
  generalize i / K = q at *
  generalize i % K = r at *
  have hm0 : 0 < K * n := Nat.mul_pos (by omega) (by omega)
  have e1 : i * n = (K * n) * q + r * n := by
    rw [← hdm, Nat.add_mul, Nat.mul_right_comm]
  have e2 : (i + 1) * n = (K * n) * q + (r + 1) * n := by
    rw [Nat.add_mul, e1, Nat.add_mul r 1 n]; omega
  have hb' := hb q (by omega)
  have hnm : n < K * n := by
    have : 2 * n ≤ K * n := Nat.mul_le_mul_right n hK
    omega
  by_cases h0 : r = 0
  · subst h0
    have hlo : cLo n (K * n) i = q := by unfold cLo; exact div_place (r := K * n - 1) (by omega) (by omega)
    have hhi : cHi n (K * n) i = q := by unfold cHi; exact div_place (r := n) (by omega) hnm
    have hcv : cvHi n (K * n) i = q := by unfold cvHi; rw [hlo, hhi, if_neg (by omega)]
    have hwl : cvWl n (K * n) i = fdiv (f32 0) (f32 n) := by unfold cvWl; rw [hlo, hhi, if_neg (by omega), e1, Nat.mul_comm q]; simp
    have hwh : cvWh n (K * n) i = fdiv (f32 n) (f32 n) := by unfold cvWh; rw [hlo, hhi, if_neg (by omega), e2, Nat.mul_comm q]; congr 2; omega
    rw [hlo, hcv, hwl, hwh]
    exact ⟨⟨by omega, by omega⟩, step_hi hf (fdiv_zero n hn1 (by omega)) (fdiv_one n hn1 (by omega)) (by omega) hb'⟩
  · have hrn : 0 < r * n := Nat.mul_pos (by omega) hn1
    have hrm : r * n + n ≤ K * n := by
      have : (r + 1) * n ≤ K * n := Nat.mul_le_mul_right n (by omega)
      rw [Nat.add_mul] at this; omega
    have hmq : K * n * (q + 1) = K * n * q + K * n := by rw [Nat.mul_add, Nat.mul_one]
    have hlo : cLo n (K * n) i = q + 1 := by unfold cLo; exact div_place (r := r * n - 1) (by omega) (by omega)
    by_cases hl : r = K - 1
    · have hr1 : (r + 1) * n = K * n := by rw [hl]; congr 1; omega
      have hr2 : r * n + n = K * n := by rw [← hr1, Nat.add_mul]; omega
      have hhi : cHi n (K * n) i = q + 1 := by unfold cHi; exact div_place (r := 0) (by omega) hm0
      have hcv : cvHi n (K * n) i = q + 1 := by unfold cvHi; rw [hlo, hhi, if_neg (by omega)]
      have hwl : cvWl n (K * n) i = fdiv (f32 n) (f32 n) := by unfold cvWl; rw [hlo, hhi, if_neg (by omega), e1, Nat.mul_comm (q + 1)]; congr 2; omega
      have hwh : cvWh n (K * n) i = fdiv (f32 0) (f32 n) := by unfold cvWh; rw [hlo, hhi, if_neg (by omega), e2, Nat.mul_comm (q + 1)]; congr 2; omega
      rw [hlo, hcv, hwl, hwh]
      exact ⟨⟨by omega, by omega⟩, step_lo hf (fdiv_one n hn1 (by omega)) (fdiv_zero n hn1 (by omega)) (by omega) (by simpa using (by omega : q < l.length)) hb'⟩
    · have hrm2 : (r + 1) * n + n ≤ K * n := by
        have : (r + 1 + 1) * n ≤ K * n := Nat.mul_le_mul_right n (by omega)
        rw [Nat.add_mul (r + 1)] at this; omega
      have hhi : cHi n (K * n) i = q := by unfold cHi; exact div_place (r := (r + 1) * n) (by omega) (by omega)
      have hcv : cvHi n (K * n) i = q + 1 := by unfold cvHi; rw [hlo, hhi, if_pos (by omega)]
      have hwl : cvWl n (K * n) i = 1065353216 := by unfold cvWl; rw [hlo, hhi, if_pos (by omega)]
      have hwh : cvWh n (K * n) i = 0 := by unfold cvWh; rw [hlo, hhi, if_pos (by omega)]
      rw [hlo, hcv, hwl, hwh]
      exact ⟨⟨by omega, by omega⟩, step_lo hf isp_one isp_zero (by omega) (by simpa using (by omega : q < l.length)) hb'⟩
end Go.Proofs.Qxb6602560a
