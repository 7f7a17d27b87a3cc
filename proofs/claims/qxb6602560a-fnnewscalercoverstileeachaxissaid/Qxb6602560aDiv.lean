/- The quotient of two floats, against rational numbers. -/
import Derived.Test.Qxb6602560aArith
namespace Go.Proofs.Qxb6602560a.Fl
open Ieee

theorem lt_or_le' (a b : Rat) : a < b ∨ b ≤ a := by grind

theorem ulp_le (f : Format) : ulp f ≤ 1 := by
  have h : ulp f ≤ p2 0 := p2_mono (by omega)
  rw [p2_zero] at h; exact h

theorem div_eq {f : Format} {x y : Nat} {m n : Nat} {i j : Int} (hx : f.read x = .number false m i) (hy : f.read y = .number false n j) (hn : n ≠ 0) :
    f.div x y = some (f.nearest false (2 * ((m <<< (f.fractionBits + 2 + n.log2 - m.log2)) / n) + ((m <<< (f.fractionBits + 2 + n.log2 - m.log2)) % n != 0).toNat) (i - j - ((f.fractionBits + 2 + n.log2 - m.log2 : Nat) : Int) - 1)) := by
  unfold Format.div
  rw [hx, hy]
  unfold Datum.quotient
  simp only
  rw [if_neg hn]; rfl

/-- The whole part and the sticky digit. -/
theorem stick (D n : Nat) (hn : 0 < n) : n * (2 * (D / n) + (D % n != 0).toNat) ≤ 2 * D + n ∧ 2 * D ≤ n * (2 * (D / n) + (D % n != 0).toNat) + n := by
  have h1 := Nat.div_add_mod D n
  have h2 := Nat.mod_lt D hn
  generalize D / n = q at *
  generalize D % n = r at *
  rw [Nat.mul_add, show n * (2 * q) = 2 * (n * q) from by rw [Nat.mul_left_comm]]
  by_cases hr : r = 0
  · subst hr; simp; omega
  · have : (r != 0).toNat = 1 := by simp [hr]
    rw [this]; omega

theorem stick_le (D n T : Nat) (hn : 0 < n) (h : D ≤ n * T) : 2 * (D / n) + (D % n != 0).toNat ≤ 2 * T := by
  have h1 := Nat.div_add_mod D n
  rcases Nat.lt_or_ge D (n * T) with hh | hh
  · have : D / n < T := Nat.div_lt_of_lt_mul hh
    have : (D % n != 0).toNat ≤ 1 := Bool.toNat_le _
    omega
  · have e : D = n * T := by omega
    subst e
    rw [Nat.mul_div_cancel_left _ hn, Nat.mul_mod_right]; simp

theorem div_isp {f : Format} (g : Good f) (ht : 0 ≤ topOf f) {x y : Nat} {a b : Rat} (hx : Isp f x a) (hy : Isp f y b) (hb : 0 < b) (h : 2 * (a / b) < p2 (topOf f + 1)) :
    ∃ r c, f.div x y = some r ∧ Isp f r c ∧ c ≤ a / b + (2 * (a / b * ulp f) + tiny f) ∧ a / b ≤ c + (2 * (a / b * ulp f) + tiny f) ∧ (a ≤ b → c ≤ 1) ∧ (a = 0 → c = 0) := by
  obtain ⟨m, i, hx, rfl⟩ := hx
  obtain ⟨n, j, hy, rfl⟩ := hy
  have hn : n ≠ 0 := by
    intro e; subst e; simp at hb
  have hn0 : 0 < n := by omega
  have hnr : (0 : Rat) < (n : Rat) := by exact_mod_cast hn0
  have hdiv := div_eq hx hy hn
  obtain ⟨hmb, _⟩ := read_bounds g hx
  generalize hv : (m : Rat) * p2 i / ((n : Rat) * p2 j) = v at *
  have hvb : v * ((n : Rat) * p2 j) = (m : Rat) * p2 i := by rw [← hv]; exact Rat.div_mul_cancel (by grind)
  have htn := tiny_pos f
  by_cases hm : m = 0
  · subst hm
    have hv0 : v = 0 := by
      have : v * ((n : Rat) * p2 j) = 0 := by rw [hvb]; simp
      rcases Rat.mul_eq_zero.1 this with h0 | h0
      · exact h0
      · exfalso; grind
    rw [Nat.zero_shiftLeft, Nat.zero_div, Nat.zero_mod] at hdiv
    obtain ⟨m', e', r1, r2⟩ := nearest_exact f g false (2 * 0 + (0 != 0).toNat) (i - j - ((f.fractionBits + 2 + n.log2 - Nat.log2 0 : Nat) : Int) - 1) (by
      have := p2_pos (topOf f + 1)
      simp; grind) 0 (fun hh => absurd rfl hh)
    have hz : (m' : Rat) * p2 e' = 0 := by rw [r2]; simp
    refine ⟨_, _, hdiv, ⟨m', e', r1, rfl⟩, ?_, ?_, ?_, ?_⟩
    · rw [hz, hv0]; grind
    · rw [hz, hv0]; grind
    · intro _; rw [hz]; decide
    · intro _; exact hz
  · have hlogm : m.log2 < f.fractionBits + 1 := (Nat.log2_lt hm).2 hmb
    obtain ⟨k, hk⟩ : ∃ k : Nat, f.fractionBits + 2 + n.log2 - m.log2 = k := ⟨_, rfl⟩
    rw [hk, Nat.shiftLeft_eq] at hdiv
    generalize hD : m * 2 ^ k = D at hdiv
    have hst := stick D n hn0
    have hDn : 2 ^ (f.fractionBits + 1) * n ≤ D := by
      have h1 := (log2_spec hm).1
      have h2 := (log2_spec hn).2
      have h3 : 2 ^ m.log2 * 2 ^ k ≤ D := by rw [← hD]; exact Nat.mul_le_mul_right _ h1
      rw [← Nat.pow_add, show m.log2 + k = (f.fractionBits + 1) + (n.log2 + 1) from by omega, Nat.pow_add] at h3
      have h4 : 2 ^ (f.fractionBits + 1) * n ≤ 2 ^ (f.fractionBits + 1) * 2 ^ (n.log2 + 1) := Nat.mul_le_mul_left _ (by omega)
      omega
    generalize hQ : 2 * (D / n) + (D % n != 0).toNat = Q at hdiv hst
    generalize hP : i - j - (k : Int) - 1 = E at hdiv
    -- the exact quotient in units of the last digit
    have hvn : v * (n : Rat) = 2 * (D : Rat) * p2 E := by
      have e1 : p2 i = p2 j * (2 * ((2 ^ k : Nat) : Rat) * p2 E) := by
        rw [← p2_nat, ← p2_one, ← p2_add, ← p2_add, ← p2_add]; congr 1; omega
      have e2 : v * (n : Rat) * p2 j = (2 * (D : Rat) * p2 E) * p2 j := by
        rw [← hD, Rat.natCast_mul]
        have := hvb
        rw [e1] at this
        grind
      have hpj := p2_pos j
      have h3 : (v * (n : Rat) - 2 * (D : Rat) * p2 E) * p2 j = 0 := by grind
      rcases Rat.mul_eq_zero.1 h3 with h0 | h0
      · grind
      · exfalso; grind
    have hPE := p2_pos E
    have s1 : (n : Rat) * (Q : Rat) ≤ 2 * (D : Rat) + (n : Rat) := by exact_mod_cast hst.1
    have s2 : 2 * (D : Rat) ≤ (n : Rat) * (Q : Rat) + (n : Rat) := by exact_mod_cast hst.2
    have t1 := Rat.mul_le_mul_of_nonneg_right s1 (Rat.le_of_lt hPE)
    have t2 := Rat.mul_le_mul_of_nonneg_right s2 (Rat.le_of_lt hPE)
    have canc : ∀ A B : Rat, A * (n : Rat) ≤ B * (n : Rat) → A ≤ B := fun A B hh => by
      rcases lt_or_le' B A with h1 | h1
      · have := Rat.mul_lt_mul_of_pos_right h1 hnr; grind
      · exact h1
    have u1 : (Q : Rat) * p2 E ≤ v + p2 E := canc _ _ (by grind)
    have u2 : v ≤ (Q : Rat) * p2 E + p2 E := canc _ _ (by grind)
    have hPv : 2 * p2 E ≤ v * ulp f := by
      have c1 := cast_le hDn
      rw [Rat.natCast_mul] at c1
      have c2 := Rat.mul_le_mul_of_nonneg_right c1 (Rat.le_of_lt hPE)
      have c3 : ((2 ^ (f.fractionBits + 1) : Nat) : Rat) * ulp f = 1 := by
        unfold ulp
        rw [← p2_nat, ← p2_add, show ((f.fractionBits + 1 : Nat) : Int) + (-(f.fractionBits : Int) - 1) = 0 from by omega, p2_zero]
      have c4 : 2 * ((2 ^ (f.fractionBits + 1) : Nat) : Rat) * p2 E ≤ v := canc _ _ (by grind)
      have c5 := Rat.mul_le_mul_of_nonneg_right c4 (Rat.le_of_lt (ulp_pos f))
      have c6 : 2 * ((2 ^ (f.fractionBits + 1) : Nat) : Rat) * p2 E * ulp f = 2 * p2 E * (((2 ^ (f.fractionBits + 1) : Nat) : Rat) * ulp f) := by grind
      rw [c6, c3] at c5
      grind
    have hv0 : 0 ≤ v := by
      have : 0 ≤ v * (n : Rat) := by rw [hvn]; exact Rat.mul_nonneg (by have := cast_nn D; grind) (Rat.le_of_lt hPE)
      exact canc _ _ (by grind)
    have hu := ulp_pos f
    have hu1 := ulp_le f
    have hvu : v * ulp f ≤ v := by
      have := Rat.mul_le_mul_of_nonneg_left hu1 hv0; grind
    have hvu0 : 0 ≤ v * ulp f := Rat.mul_nonneg hv0 (Rat.le_of_lt hu)
    have hq2 : (Q : Rat) * p2 E ≤ 2 * v := by grind
    obtain ⟨m', e', r1, r2, r3⟩ := nearest_spec f g false Q E (by grind)
    -- (Q p2 E) ulp ≤ v ulp + (v ulp / 2) ulp ≤ (3/2) v ulp
    have hqu : (Q : Rat) * p2 E * ulp f ≤ (v + v * ulp f * (1 / 2)) * ulp f := Rat.mul_le_mul_of_nonneg_right (by grind) (Rat.le_of_lt hu)
    have hvuu : v * ulp f * ulp f ≤ v * ulp f := by
      have := Rat.mul_le_mul_of_nonneg_left hu1 hvu0; grind
    have hqu2 : (Q : Rat) * p2 E * ulp f ≤ v * ulp f + v * ulp f * (1 / 2) := by grind
    refine ⟨_, _, hdiv, ⟨m', e', r1, rfl⟩, by grind, by grind, fun hab => ?_, fun h0 => ?_⟩
    · have hv1 : v ≤ 1 := by
        rcases lt_or_le' 1 v with h1 | h1
        · have := Rat.mul_lt_mul_of_pos_right h1 hb; grind
        · exact h1
      have hQ1 : (Q : Rat) * p2 E ≤ 1 := by
        by_cases hE : E < 0
        · obtain ⟨T, hT⟩ : ∃ T : Nat, -E - 1 = (T : Int) := ⟨(-E - 1).toNat, by omega⟩
          have h1 : 2 * ((2 ^ T : Nat) : Rat) * p2 E = 1 := by
            rw [← p2_nat, ← p2_one, ← p2_add, ← p2_add, show 1 + (T : Int) + E = 0 from by omega, p2_zero]
          have hle : D ≤ n * 2 ^ T := by
            rcases Nat.lt_or_ge (n * 2 ^ T) D with hh | hh
            · exfalso
              have c1 := cast_lt hh
              have c2 := Rat.mul_lt_mul_of_pos_right c1 hPE
              rw [Rat.natCast_mul] at c2
              have c3 := Rat.mul_le_mul_of_nonneg_right hv1 (Rat.le_of_lt hnr)
              have c4 : 2 * ((n : Rat) * ((2 ^ T : Nat) : Rat) * p2 E) = (n : Rat) := by
                have : 2 * ((n : Rat) * ((2 ^ T : Nat) : Rat) * p2 E) = (n : Rat) * (2 * ((2 ^ T : Nat) : Rat) * p2 E) := by grind
                rw [this, h1]; grind
              grind
            · exact hh
          have hq := stick_le D n (2 ^ T) hn0 hle
          rw [hQ] at hq
          have c1 := Rat.mul_le_mul_of_nonneg_right (cast_le hq) (Rat.le_of_lt hPE)
          rw [Rat.natCast_mul] at c1
          have c2 : ((2 : Nat) : Rat) = 2 := rfl
          rw [c2] at c1
          grind
        · exfalso
          have h1 : p2 0 ≤ p2 E := p2_mono (by omega)
          rw [p2_zero] at h1
          grind
      obtain ⟨m2, e2, q1, q2⟩ := nearest_le_one f g false Q E hQ1 ht
      rw [r1] at q1
      injection q1 with _ e1 e2
      subst e1; subst e2
      exact q2
    · exfalso
      have : (0 : Rat) < (m : Rat) := by exact_mod_cast (by omega : 0 < m)
      have := Rat.mul_pos this (p2_pos i)
      grind

theorem div_self {f : Format} (g : Good f) (ht : 0 ≤ topOf f) {x : Nat} {a : Rat} (hx : Isp f x a) (ha : 0 < a) : ∃ r, f.div x x = some r ∧ Isp f r 1 := by
  obtain ⟨m, i, hx, rfl⟩ := hx
  have hm : m ≠ 0 := by
    intro e; subst e; simp at ha
  have hdiv := div_eq hx hx hm
  generalize f.fractionBits + 2 + m.log2 - m.log2 = k at hdiv
  rw [Nat.shiftLeft_eq, Nat.mul_div_cancel_left _ (by omega), Nat.mul_mod_right] at hdiv
  have hval : ((2 * 2 ^ k + (0 != 0).toNat : Nat) : Rat) * p2 (i - i - (k : Int) - 1) = 1 := by
    have e1 : 2 * 2 ^ k + (0 != 0).toNat = 2 ^ (k + 1) := by simp [Nat.pow_succ]; omega
    rw [e1, ← p2_nat, ← p2_add, show ((k + 1 : Nat) : Int) + (i - i - (k : Int) - 1) = 0 from by omega, p2_zero]
  obtain ⟨m', e', r1, r2⟩ := nearest_rep f g false _ (i - i - (k : Int) - 1) (by
    rw [hval]
    have h1 : p2 1 ≤ p2 (topOf f + 1) := p2_mono (by omega)
    rw [p2_one] at h1; grind) 1 0 (by rw [hval, p2_zero]; simp) (Nat.one_lt_two_pow (by omega)) (by have := g.low; omega)
  exact ⟨_, hdiv, m', e', r1, by rw [r2, hval]⟩
end Go.Proofs.Qxb6602560a.Fl
