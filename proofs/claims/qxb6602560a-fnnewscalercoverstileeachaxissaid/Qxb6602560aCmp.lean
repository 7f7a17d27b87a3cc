/- The law's own comparison in float64, and bounds of the second algorithm. -/
import Derived.Test.Qxb6602560aAvg
namespace Go.Proofs.Qxb6602560a
open Fl
set_option linter.unusedVariables false

theorem inte_le (l : List Nat) (m p : Nat) (hby : ∀ i, l.getD i 0 ≤ 255) : inte l m p ≤ 255 * p := by
  unfold inte
  have h1 : ∀ x, preS l x ≤ 255 * x := by
    intro x
    induction x with
    | zero => exact Nat.le_refl _
    | succ x ih => rw [preS_succ]; have := hby x; omega
  have h2 := Nat.div_add_mod p m
  have a1 : m * preS l (p / m) ≤ m * (255 * (p / m)) := Nat.mul_le_mul_left m (h1 _)
  have a2 : p % m * l.getD (p / m) 0 ≤ p % m * 255 := Nat.mul_le_mul_left _ (hby _)
  have a3 : m * (255 * (p / m)) = 255 * (m * (p / m)) := by rw [Nat.mul_left_comm]
  have a4 : 255 * p = 255 * (m * (p / m)) + 255 * (p % m) := by rw [← Nat.mul_add, h2]
  omega

theorem byte_all {l : List Nat} (h : ∀ i, i < l.length → l.getD i 0 ≤ 255) : ∀ i, l.getD i 0 ≤ 255 := by
  intro i
  rcases Nat.lt_or_ge i l.length with hi | hi
  · exact h i hi
  · rw [List.getD_eq_getElem?_getD, List.getElem?_eq_none hi]; exact Nat.zero_le _

theorem takes_le (l : List Nat) (n m i : Nat) (hby : ∀ i, i < l.length → l.getD i 0 ≤ 255) (hn1 : 1 ≤ n) (hm1 : 1 ≤ m) (hi : i < m) : takes l n m i ≤ 255 * n := by
  have hb := byte_all hby
  by_cases hlt : cHi n m i < cLo n m i
  · obtain ⟨q1, _, _⟩ := takes_inside l n m i hn1 hm1 hi hlt
    rw [q1, Nat.mul_comm]; exact Nat.mul_le_mul_right n (hb _)
  · obtain ⟨q1, q2, q3, q4, q5, q6, q7⟩ := takes_cover l n m i hn1 hm1 hi (by omega)
    rw [q1]
    have hs : ∀ lo t, sumB l lo t ≤ 255 * t := by
      intro lo t
      induction t with
      | zero => exact Nat.le_refl _
      | succ t ih => show sumB l lo t + l.getD (lo + t) 0 ≤ _; have := hb (lo + t); omega
    have a1 : m * sumB l (cLo n m i) (cHi n m i - cLo n m i) ≤ m * (255 * (cHi n m i - cLo n m i)) := Nat.mul_le_mul_left m (hs _ _)
    have a2 : m * (255 * (cHi n m i - cLo n m i)) = 255 * ((cHi n m i - cLo n m i) * m) := by rw [Nat.mul_left_comm, Nat.mul_comm m]
    have a3 : (cLo n m i * m - i * n) * l.getD (cLo n m i - 1) 0 ≤ (cLo n m i * m - i * n) * 255 := Nat.mul_le_mul_left _ (hb _)
    have a4 : ((i + 1) * n - cHi n m i * m) * l.getD (cHi n m i) 0 ≤ ((i + 1) * n - cHi n m i * m) * 255 := Nat.mul_le_mul_left _ (hb _)
    omega

theorem ulpD : ulp Ieee.double ≤ 1 / 1099511627776 := by
  have h : p2 (-40) * p2 ((40 : Nat) : Int) = p2 0 := by rw [← p2_add]; rfl
  rw [p2_nat, p2_zero] at h
  have e : ((2 ^ 40 : Nat) : Rat) = 1099511627776 := rfl
  rw [e] at h
  have h2 : ulp Ieee.double ≤ p2 (-40) := p2_mono (by decide)
  grind
theorem tinyD : tiny Ieee.double ≤ 1 / 1152921504606846976 := by
  have h : p2 (-60) * p2 ((60 : Nat) : Int) = p2 0 := by rw [← p2_add]; rfl
  rw [p2_nat, p2_zero] at h
  have e : ((2 ^ 60 : Nat) : Rat) = 1152921504606846976 := rfl
  rw [e] at h
  have h2 : tiny Ieee.double ≤ p2 (-60) := p2_mono (by decide)
  grind

theorem top_bigD {v : Rat} (h : v ≤ 1099511627776) : v < p2 (topOf Ieee.double + 1) := by
  have h1 : p2 ((41 : Nat) : Int) ≤ p2 (topOf Ieee.double + 1) := p2_mono (by decide)
  rw [p2_nat] at h1
  have h2 : ((2 ^ 41 : Nat) : Rat) = 2199023255552 := rfl
  rw [h2] at h1
  grind

/-- 1/1024 and its negative, as the law writes them. -/
theorem is_c1 : Is Ieee.double 4562146422526312448 (1 / 1024) := ⟨false, 4503599627370496, -62, by decide, by
  have h : p2 (-62) * p2 ((62 : Nat) : Int) = p2 0 := by rw [← p2_add]; rfl
  rw [p2_nat, p2_zero] at h
  have e : ((2 ^ 62 : Nat) : Rat) = 4611686018427387904 := rfl
  rw [e] at h
  have e2 : ((4503599627370496 : Nat) : Rat) = 4503599627370496 := rfl
  show (1 : Rat) / 1024 = ((4503599627370496 : Nat) : Rat) * p2 (-62)
  rw [e2]; grind⟩
theorem is_c2 : Is Ieee.double 13785518459381088256 (-(1 / 1024)) := ⟨true, 4503599627370496, -62, by decide, by
  have h : p2 (-62) * p2 ((62 : Nat) : Int) = p2 0 := by rw [← p2_add]; rfl
  rw [p2_nat, p2_zero] at h
  have e : ((2 ^ 62 : Nat) : Rat) = 4611686018427387904 := rfl
  rw [e] at h
  have e2 : ((4503599627370496 : Nat) : Rat) = 4503599627370496 := rfl
  show -((1 : Rat) / 1024) = -(((4503599627370496 : Nat) : Rat) * p2 (-62))
  rw [e2]; grind⟩

theorem avg_cmp (r T n : Nat) {v : Rat} (hr : Isp Ieee.single r v) (hn1 : 1 ≤ n) (hnb : n ≤ 32768) (hT : T ≤ 255 * n) (h1 : v ≤ (T : Rat) / (n : Rat) + 1 / 2048) (h2 : (T : Rat) / (n : Rat) ≤ v + 1 / 2048) :
    ∃ r64 q d, floatToFloatBits .f32 r .f64 = some r64 ∧ floatBits .quo .f64 (floatOfInt .f64 (T : Int)) (floatOfInt .f64 (n : Int)) = some q ∧ floatBits .sub .f64 r64 q = some d ∧
      (FloatKind.f64.format.order d 4562146422526312448 == some .lt || FloatKind.f64.format.order d 4562146422526312448 == some .eq) = true ∧
      (FloatKind.f64.format.order d 13785518459381088256 == some .gt || FloatKind.f64.format.order d 13785518459381088256 == some .eq) = true := by
  have hn0 : (0 : Rat) < (n : Rat) := by exact_mod_cast (by omega : 0 < n)
  obtain ⟨r64, a1, a2⟩ := widen hr
  have eT : (T : Rat) / (n : Rat) * (n : Rat) = (T : Rat) := Rat.div_mul_cancel (by grind)
  have hT255 : (T : Rat) / (n : Rat) ≤ 255 := le_of_mul hn0 (by
    rw [eT]
    have := cast_le hT
    rw [Rat.natCast_mul] at this
    have e : ((255 : Nat) : Rat) = 255 := rfl
    grind)
  have hT0 : 0 ≤ (T : Rat) / (n : Rat) := le_of_mul hn0 (by rw [eT]; have := cast_nn T; grind)
  obtain ⟨q, c, b1, b2, b3, b4, _, _⟩ := div_isp good_double (by decide) (of64 T (by omega)) (of64 n (by omega)) hn0 (top_bigD (by grind))
  have hu := ulpD
  have hu0 := ulp_pos Ieee.double
  have ht := tinyD
  have ht0 := tiny_pos Ieee.double
  have hTu : (T : Rat) / (n : Rat) * ulp Ieee.double ≤ 255 / 1099511627776 := by
    have x1 := Rat.mul_le_mul_of_nonneg_left hu hT0
    have x2 := Rat.mul_le_mul_of_nonneg_right hT255 (show (0 : Rat) ≤ 1 / 1099511627776 by grind)
    grind
  obtain ⟨d, e, c1, c2, c3, c4⟩ := sub_is (B := 1) good_double a2 b2 (by grind) (by grind) (top_bigD (by grind))
  refine ⟨r64, q, d, a1, b1, c1, ?_, ?_⟩
  · have := (order_is c2 is_c1).1 (by grind)
    show (Ieee.double.order d 4562146422526312448 == some .lt || Ieee.double.order d 4562146422526312448 == some .eq) = true
    rw [this]; rfl
  · have := (order_is c2 is_c2).2.2 (by grind)
    show (Ieee.double.order d 13785518459381088256 == some .gt || Ieee.double.order d 13785518459381088256 == some .eq) = true
    rw [this]; rfl
end Go.Proofs.Qxb6602560a
