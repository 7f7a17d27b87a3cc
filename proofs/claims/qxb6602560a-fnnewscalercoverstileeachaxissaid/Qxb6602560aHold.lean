/- The shares of one cover: signs, bounds, and their sum in float64. -/
import Derived.Test.Qxb6602560aCmp
namespace Go.Proofs.Qxb6602560a
open Fl
set_option linter.unusedVariables false

theorem isp_oneD : Isp Ieee.double 4607182418800017408 1 := ⟨4503599627370496, -52, by decide, by
  have h : p2 (-52) * p2 ((52 : Nat) : Int) = p2 0 := by rw [← p2_add]; rfl
  rw [p2_nat, p2_zero] at h
  have e : ((2 ^ 52 : Nat) : Rat) = ((4503599627370496 : Nat) : Rat) := rfl
  rw [e] at h
  grind⟩
theorem c5_big : (1 : Rat) / 131072 ≤ ((5902958103587057 : Nat) : Rat) * p2 (-69) := by
  have h : p2 (-69) * p2 ((69 : Nat) : Int) = p2 0 := by rw [← p2_add]; rfl
  rw [p2_nat, p2_zero] at h
  have e : ((2 ^ 69 : Nat) : Rat) = 590295810358705651712 := rfl
  rw [e] at h
  have e2 : ((5902958103587057 : Nat) : Rat) = 5902958103587057 := rfl
  rw [e2]; grind
theorem is_c5 : Is Ieee.double 4532020583610935537 (((5902958103587057 : Nat) : Rat) * p2 (-69)) := ⟨false, 5902958103587057, -69, by decide, rfl⟩
theorem is_c5n : Is Ieee.double 13755392620465711345 (-(((5902958103587057 : Nat) : Rat) * p2 (-69))) := ⟨true, 5902958103587057, -69, by decide, rfl⟩

theorem hold_t (X Y k n m : Nat) (hn1 : 1 ≤ n) (hn : n ≤ 65536) (hm1 : 1 ≤ m) (hm : m ≤ 65536) (hk : k ≤ 65536) (hsum : k * m + X + Y = n) :
    ∃ a b p s1 c s2 t, floatToFloatBits .f32 (fdiv (f32 X) (f32 n)) .f64 = some a ∧ floatToFloatBits .f32 (fdiv (f32 m) (f32 n)) .f64 = some b ∧
      floatBits .mul .f64 (floatOfInt .f64 (k : Int)) b = some p ∧ floatBits .add .f64 a p = some s1 ∧ floatToFloatBits .f32 (fdiv (f32 Y) (f32 n)) .f64 = some c ∧ floatBits .add .f64 s1 c = some s2 ∧
      floatBits .sub .f64 s2 4607182418800017408 = some t ∧
      (FloatKind.f64.format.order t 4532020583610935537 == some .lt || FloatKind.f64.format.order t 4532020583610935537 == some .eq) = true ∧
      (FloatKind.f64.format.order t 13755392620465711345 == some .gt || FloatKind.f64.format.order t 13755392620465711345 == some .eq) = true := by
  have hn0 : (0 : Rat) < (n : Rat) := by exact_mod_cast (by omega : 0 < n)
  have hX : X ≤ n := by omega
  have hY : Y ≤ n := by omega
  obtain ⟨_, cl, l1, l2, l3, l4, _⟩ := fdiv_spec X n (by omega) hn1 (by omega)
  obtain ⟨_, cf, f1, f2, f3, _, _⟩ := fdiv_spec m n (by omega) hn1 (by omega)
  obtain ⟨_, ch, h1, h2, h3, h4, _⟩ := fdiv_spec Y n (by omega) hn1 (by omega)
  have hl1 := l4 hX
  have hh1 := h4 hY
  obtain ⟨a, a1, a2⟩ := widen l1
  obtain ⟨b, b1, b2⟩ := widen f1
  obtain ⟨c, c1, c2⟩ := widen h1
  have hu := ulpS
  have ht := tinyS
  have ht0 := tiny_pos Ieee.single
  rw [hu] at l2 l3 f2 f3 h2 h3
  generalize tiny Ieee.single = t at *
  -- the exact sum
  have ea : (m : Rat) / (n : Rat) * (n : Rat) = (m : Rat) := Rat.div_mul_cancel (by grind)
  have eb : (X : Rat) / (n : Rat) * (n : Rat) = (X : Rat) := Rat.div_mul_cancel (by grind)
  have ec : (Y : Rat) / (n : Rat) * (n : Rat) = (Y : Rat) := Rat.div_mul_cancel (by grind)
  have hone : (m : Rat) / (n : Rat) * (k : Rat) + (X : Rat) / (n : Rat) + (Y : Rat) / (n : Rat) = 1 := by
    refine eq_of_mul hn0 ?_
    have hs : ((k * m + X + Y : Nat) : Rat) = (n : Rat) := by rw [hsum]
    rw [Rat.natCast_add, Rat.natCast_add, Rat.natCast_mul] at hs
    rw [Rat.add_mul, Rat.add_mul, eb, ec]
    have g1 : (m : Rat) / (n : Rat) * (k : Rat) * (n : Rat) = (m : Rat) * (k : Rat) := by rw [← ea]; grind
    rw [g1]; grind
  have nn : ∀ j : Nat, (0 : Rat) ≤ (j : Rat) / (n : Rat) := fun j => le_of_mul hn0 (by
    have : (j : Rat) / (n : Rat) * (n : Rat) = (j : Rat) := Rat.div_mul_cancel (by grind)
    have := cast_nn j
    grind)
  have nX := nn X
  have nY := nn Y
  have nm := nn m
  have hk0 : (0 : Rat) ≤ (k : Rat) := cast_nn k
  have hk1 : (k : Rat) ≤ 65536 := by
    have := cast_le hk
    have e : ((65536 : Nat) : Rat) = 65536 := rfl
    grind
  have nmk : 0 ≤ (m : Rat) / (n : Rat) * (k : Rat) := Rat.mul_nonneg nm hk0
  have m1 := Rat.mul_le_mul_of_nonneg_right f2 hk0
  have m2 := Rat.mul_le_mul_of_nonneg_right f3 hk0
  have tk : t * (k : Rat) ≤ 1 / 1152921504606846976 * 65536 := by
    have x1 := Rat.mul_le_mul_of_nonneg_right ht hk0
    have x2 := Rat.mul_le_mul_of_nonneg_left hk1 (show (0 : Rat) ≤ 1 / 1152921504606846976 by grind)
    grind
  have tk0 : 0 ≤ t * (k : Rat) := Rat.mul_nonneg (by grind) hk0
  have e1 : ((m : Rat) / (n : Rat) + (2 * ((m : Rat) / (n : Rat) * (1 / 16777216)) + t)) * (k : Rat) = (m : Rat) / (n : Rat) * (k : Rat) + (2 * ((m : Rat) / (n : Rat) * (k : Rat)) * (1 / 16777216) + t * (k : Rat)) := by grind
  have e2 : (cf + (2 * ((m : Rat) / (n : Rat) * (1 / 16777216)) + t)) * (k : Rat) = cf * (k : Rat) + (2 * ((m : Rat) / (n : Rat) * (k : Rat)) * (1 / 16777216) + t * (k : Rat)) := by grind
  rw [e1] at m1
  rw [e2] at m2
  generalize (m : Rat) / (n : Rat) * (k : Rat) = A at *
  generalize (X : Rat) / (n : Rat) = B at *
  generalize (Y : Rat) / (n : Rat) = C at *
  have hcomm : (k : Rat) * cf = cf * (k : Rat) := Rat.mul_comm _ _
  have hU := ulpD
  have hU0 := ulp_pos Ieee.double
  have hT := tinyD
  have hT0 := tiny_pos Ieee.double
  have hlnn := l1.nn
  have hhnn := h1.nn
  have pu : ∀ v : Rat, 0 ≤ v → v ≤ 4 → v * ulp Ieee.double ≤ 4 / 1099511627776 := fun v hv0 hv => by
    have x1 := Rat.mul_le_mul_of_nonneg_left hU hv0
    have x2 := Rat.mul_le_mul_of_nonneg_right hv (show (0 : Rat) ≤ 1 / 1099511627776 by grind)
    grind
  obtain ⟨p, vp, p1, p2', p3, p4⟩ := mul_isp good_double (of64 k (by omega)) b2 (top_bigD (by rw [hcomm]; grind))
  rw [hcomm] at p3 p4
  have hkc0 : 0 ≤ cf * (k : Rat) := Rat.mul_nonneg f1.nn hk0
  have q1 := pu (cf * (k : Rat)) hkc0 (by grind)
  obtain ⟨s1, v1, s11, s12, s13, s14⟩ := add_isp good_double a2 p2' (top_bigD (by grind))
  have hvp0 := p2'.nn
  have q2 := pu (cl + vp) (by grind) (by grind)
  obtain ⟨s2, v2, s21, s22, s23, s24⟩ := add_isp good_double s12 c2 (top_bigD (by grind))
  have hv10 := s12.nn
  have q3 := pu (v1 + ch) (by grind) (by grind)
  obtain ⟨tt, vt, t1, t2, t3, t4⟩ := sub_is (B := 1) good_double s22 isp_oneD (by grind) (by grind) (top_bigD (by grind))
  have hc5 := c5_big
  refine ⟨a, b, p, s1, c, s2, tt, a1, b1, p1, s11, c1, s21, t1, ?_, ?_⟩
  · have := (order_is t2 is_c5).1 (by grind)
    show (Ieee.double.order tt 4532020583610935537 == some .lt || Ieee.double.order tt 4532020583610935537 == some .eq) = true
    rw [this]; rfl
  · have := (order_is t2 is_c5n).2.2 (by grind)
    show (Ieee.double.order tt 13755392620465711345 == some .gt || Ieee.double.order tt 13755392620465711345 == some .eq) = true
    rw [this]; rfl

/-- A share X/n: its signs and bounds as the law asks them. -/
theorem share (X n : Nat) (hX : X ≤ n) (hn1 : 1 ≤ n) (hn : n ≤ 65536) :
    (FloatKind.f32.format.order (fdiv (f32 X) (f32 n)) 0 == some .gt) = decide (0 < X) ∧
    (FloatKind.f32.format.order (fdiv (f32 X) (f32 n)) 0 == some .gt || FloatKind.f32.format.order (fdiv (f32 X) (f32 n)) 0 == some .eq) = true ∧
    (FloatKind.f32.format.order (fdiv (f32 X) (f32 n)) 1065353216 == some .lt || FloatKind.f32.format.order (fdiv (f32 X) (f32 n)) 1065353216 == some .eq) = true := by
  obtain ⟨_, c, h1, h2, h3, h4, h5⟩ := fdiv_spec X n (by omega) hn1 (by omega)
  have hc1 := h4 hX
  have h0 := h1.nn
  refine ⟨?_, ?_, ?_⟩
  · rcases Nat.eq_zero_or_pos X with hx | hx
    · rw [not_gt h1 (h5 hx)]; simp [hx]
    · rw [is_gt h1 (near_pos hx hn1 hn h3)]; simp [hx]
  · rcases lt_or_le' 0 c with hh | hh
    · rw [is_gt h1 hh]; rfl
    · have := (order_is h1.is isp_zero.is).2.1 (by grind)
      show (Ieee.single.order _ 0 == some .gt || Ieee.single.order _ 0 == some .eq) = true
      rw [this]; rfl
  · rcases lt_or_le' c 1 with hh | hh
    · have := (order_is h1.is isp_one.is).1 hh
      show (Ieee.single.order _ 1065353216 == some .lt || Ieee.single.order _ 1065353216 == some .eq) = true
      rw [this]; rfl
    · have := (order_is h1.is isp_one.is).2.1 (by grind)
      show (Ieee.single.order _ 1065353216 == some .lt || Ieee.single.order _ 1065353216 == some .eq) = true
      rw [this]; rfl

theorem one_facts : (FloatKind.f32.format.order 1065353216 0 == some .gt) = true ∧ (FloatKind.f32.format.order 1065353216 1065353216 != some .eq) = false ∧
    (FloatKind.f32.format.order 0 0 == some .gt) = false ∧ (FloatKind.f32.format.order 0 0 != some .eq) = false := by
  refine ⟨by decide, by decide, by decide, by decide⟩
end Go.Proofs.Qxb6602560a
