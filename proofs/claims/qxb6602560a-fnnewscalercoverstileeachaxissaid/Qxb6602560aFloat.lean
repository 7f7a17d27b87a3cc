/- Binary floating point against rational numbers: what 'Ieee' rounds to, as an error bound. Plain mathematics; no program. -/
import Derived.Laws.FloatArith
namespace Go.Proofs.Qxb6602560a.Fl
open Ieee

/-- Two to a whole power. -/
def p2 (e : Int) : Rat := (2 : Rat) ^ e
theorem two_ne : (2 : Rat) ≠ 0 := by decide
theorem p2_pos (e : Int) : 0 < p2 e := Rat.zpow_pos (by decide)
theorem p2_add (a b : Int) : p2 (a + b) = p2 a * p2 b := Rat.zpow_add two_ne a b
theorem p2_nat (n : Nat) : p2 (n : Int) = ((2 ^ n : Nat) : Rat) := by
  unfold p2
  rw [Rat.zpow_natCast]
  induction n with
  | zero => rfl
  | succ n ih => rw [Rat.pow_succ, ih, Nat.pow_succ, Rat.natCast_mul]; rfl
theorem p2_zero : p2 0 = 1 := rfl
theorem p2_one : p2 1 = 2 := by decide
theorem p2_succ (e : Int) : p2 (e + 1) = 2 * p2 e := by rw [p2_add, p2_one]; grind
theorem p2_mono {a b : Int} (h : a ≤ b) : p2 a ≤ p2 b := by
  obtain ⟨n, rfl⟩ := Int.le.dest h
  rw [p2_add, p2_nat]
  have h1 : (1 : Rat) ≤ ((2 ^ n : Nat) : Rat) := by
    have : 1 ≤ 2 ^ n := Nat.one_le_two_pow
    exact_mod_cast this
  have := Rat.mul_le_mul_of_nonneg_right h1 (Rat.le_of_lt (p2_pos a))
  grind
theorem p2_lt {a b : Int} (h : p2 a < p2 b) : a < b := by
  rcases Int.lt_or_le a b with h1 | h1
  · exact h1
  · have := p2_mono h1; grind

theorem cast_le {a b : Nat} (h : a ≤ b) : (a : Rat) ≤ (b : Rat) := by exact_mod_cast h
theorem cast_lt {a b : Nat} (h : a < b) : (a : Rat) < (b : Rat) := by exact_mod_cast h
theorem cast_nn (a : Nat) : (0 : Rat) ≤ (a : Rat) := by exact_mod_cast Nat.zero_le a

/-! ### Rounding to a whole number -/
theorem log2_spec {n : Nat} (h : n ≠ 0) : 2 ^ n.log2 ≤ n ∧ n < 2 ^ (n.log2 + 1) := ⟨Nat.log2_self_le h, Nat.lt_log2_self⟩

theorem cut_bound (neg : Bool) (n drop : Nat) : 2 * (Toward.even.cut neg n drop * 2 ^ drop) ≤ 2 * n + 2 ^ drop ∧ 2 * n ≤ 2 * (Toward.even.cut neg n drop * 2 ^ drop) + 2 ^ drop := by
  unfold Toward.cut
  simp only
  by_cases hd : drop ≤ n.log2 + 2
  · rw [Nat.min_eq_left hd, Nat.shiftLeft_eq, Nat.one_mul]
    have hdm := Nat.div_add_mod n (2 ^ drop)
    have hml := Nat.mod_lt n (Nat.two_pow_pos drop)
    generalize 2 ^ drop = g at *
    generalize n / g = q at *
    generalize n % g = r at *
    have hc : g * q = q * g := Nat.mul_comm _ _
    by_cases h1 : g < 2 * r || (g == 2 * r && q % 2 == 1)
    · rw [h1]
      have h2 : g ≤ 2 * r := by
        simp only [Bool.or_eq_true, decide_eq_true_eq, Bool.and_eq_true, beq_iff_eq] at h1
        omega
      show 2 * ((q + 1) * g) ≤ _ ∧ _ ≤ 2 * ((q + 1) * g) + g
      rw [Nat.add_mul]; omega
    · rw [Bool.not_eq_true] at h1
      rw [h1]
      have h2 : 2 * r ≤ g := by
        simp only [Bool.or_eq_false_iff, decide_eq_false_iff_not] at h1
        omega
      show 2 * ((q + 0) * g) ≤ _ ∧ _ ≤ 2 * ((q + 0) * g) + g
      rw [Nat.add_zero]; omega
  · rw [Nat.min_eq_right (by omega), Nat.shiftLeft_eq, Nat.one_mul]
    have hn : 2 * n < 2 ^ (n.log2 + 2) := by
      have h1 := @Nat.lt_log2_self n
      rw [Nat.pow_succ]
      have : 2 ^ (n.log2 + 1) = 2 ^ (n.log2 + 1) := rfl
      omega
    have hle : 2 ^ (n.log2 + 2) ≤ 2 ^ drop := Nat.pow_le_pow_right (by omega) (by omega)
    rw [Nat.div_eq_of_lt (by omega), Nat.mod_eq_of_lt (by omega)]
    have h1 : (decide (2 ^ (n.log2 + 2) < 2 * n) || (2 ^ (n.log2 + 2) == 2 * n && 0 % 2 == 1)) = false := by
      simp; omega
    rw [h1]
    simp; omega

/-! ### Reading a word back -/
theorem signWeight_eq (f : Format) : f.signWeight = 2 ^ f.exponentBits * f.binade := by
  unfold Format.signWeight Format.binade; rw [Nat.pow_add]

theorem infRung_le (f : Format) : f.infRung ≤ f.signWeight := by
  rw [signWeight_eq]; unfold Format.infRung; exact Nat.mul_le_mul_right _ (Nat.sub_le _ _)

theorem binade_pos (f : Format) : 0 < f.binade := Nat.two_pow_pos _

theorem read_word (f : Format) (neg : Bool) (rung : Nat) (h : rung < f.infRung) :
    f.read (f.word neg rung) = if rung < f.binade then .number neg rung f.leastPlace else .number neg (f.binade + rung % f.binade) (f.leastPlace + (rung / f.binade - 1 : Nat)) := by
  have hs : rung < f.signWeight := Nat.lt_of_lt_of_le h (infRung_le f)
  have hsp : 0 < f.signWeight := by omega
  have e1 : (f.word neg rung / f.signWeight % 2 == 1) = neg := by
    unfold Format.word
    cases neg
    · simp [Nat.div_eq_of_lt hs]
    · rw [if_pos rfl, Nat.add_comm, Nat.add_div_right _ hsp, Nat.div_eq_of_lt hs]; rfl
  have e2 : f.word neg rung % f.signWeight = rung := by
    unfold Format.word
    cases neg
    · simp [Nat.mod_eq_of_lt hs]
    · rw [if_pos rfl, Nat.add_comm, Nat.add_mod_right, Nat.mod_eq_of_lt hs]
  unfold Format.read
  simp only [e1, e2, h, if_true]

/-- The number that stands on the rung of 'kept' in binade E. -/
theorem read_rung (f : Format) (neg : Bool) (E kept : Nat) (hk : kept ≤ 2 * f.binade) (hb : E = 0 ∨ f.binade ≤ kept) (hr : E * f.binade + kept < f.infRung) :
    ∃ (m : Nat) (e : Int), f.read (f.word neg (E * f.binade + kept)) = .number neg m e ∧ (m : Rat) * p2 e = (kept : Rat) * p2 (f.leastPlace + E) := by
  rw [read_word f neg _ hr]
  have hbp := binade_pos f
  by_cases h1 : kept < f.binade
  · have hE : E = 0 := by omega
    subst hE
    rw [Nat.zero_mul, Nat.zero_add, if_pos h1]
    exact ⟨_, _, rfl, by simp⟩
  · have hge : ¬ E * f.binade + kept < f.binade := by omega
    rw [if_neg hge]
    by_cases h2 : kept < 2 * f.binade
    · refine ⟨_, _, rfl, ?_⟩
      have hdiv : (E * f.binade + kept) / f.binade = E + 1 := by
        rw [Nat.add_comm, Nat.add_mul_div_right _ _ hbp, Nat.div_eq_of_lt_le (k := 1) (by omega) (by omega)]; omega
      have hmod : (E * f.binade + kept) % f.binade = kept - f.binade := by
        rw [Nat.add_comm, Nat.add_mul_mod_self_right, Nat.mod_eq_sub_mod (by omega), Nat.mod_eq_of_lt (by omega)]
      rw [hdiv, hmod, show f.binade + (kept - f.binade) = kept from by omega, show E + 1 - 1 = E from rfl]
    · have hk2 : kept = 2 * f.binade := by omega
      subst hk2
      refine ⟨_, _, rfl, ?_⟩
      have hdiv : (E * f.binade + 2 * f.binade) / f.binade = E + 2 := by
        rw [← Nat.add_mul, Nat.mul_div_cancel _ hbp]
      have hmod : (E * f.binade + 2 * f.binade) % f.binade = 0 := by
        rw [← Nat.add_mul, Nat.mul_mod_left]
      rw [hdiv, hmod, Nat.add_zero, show E + 2 - 1 = E + 1 from rfl, show (f.leastPlace + ((E + 1 : Nat) : Int)) = (f.leastPlace + E) + 1 from by omega, p2_succ, Rat.natCast_mul]
      grind
end Go.Proofs.Qxb6602560a.Fl
