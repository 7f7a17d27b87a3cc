/- The operations on floats, against rational numbers. -/
import Derived.Test.Qxb6602560aRound
namespace Go.Proofs.Qxb6602560a.Fl
open Ieee

/-- The word x stands for the number v. -/
def Is (f : Format) (x : Nat) (v : Rat) : Prop := ∃ s m e, f.read x = .number s m e ∧ v = sv s m e
/-- The word x stands for the number v, and its sign is plus. -/
def Isp (f : Format) (x : Nat) (v : Rat) : Prop := ∃ (m : Nat) (e : Int), f.read x = .number false m e ∧ v = (m : Rat) * p2 e

theorem Isp.is {f : Format} {x : Nat} {v : Rat} (h : Isp f x v) : Is f x v := by
  obtain ⟨m, e, h1, h2⟩ := h
  exact ⟨false, m, e, h1, h2⟩
theorem Isp.nn {f : Format} {x : Nat} {v : Rat} (h : Isp f x v) : 0 ≤ v := by
  obtain ⟨m, e, h1, rfl⟩ := h
  exact Rat.mul_nonneg (cast_nn _) (Rat.le_of_lt (p2_pos _))
theorem Isp.of_eq {f : Format} {x : Nat} {v w : Rat} (h : Isp f x v) (e : v = w) : Isp f x w := e ▸ h

theorem read_bounds {f : Format} (g : Good f) {x : Nat} {s : Bool} {m : Nat} {e : Int} (h : f.read x = .number s m e) : m < 2 ^ (f.fractionBits + 1) ∧ f.leastPlace ≤ e := by
  have hb : f.binade = 2 ^ f.fractionBits := g.bin
  have h2 : 2 ^ (f.fractionBits + 1) = 2 * 2 ^ f.fractionBits := by rw [Nat.pow_succ]; omega
  have hp := Nat.two_pow_pos f.fractionBits
  unfold Format.read at h
  simp only at h
  split at h
  · rename_i hh
    injection h with a b c
    subst b; subst c
    omega
  · split at h
    · injection h with a b c
      subst b; subst c
      have := Nat.mod_lt (x % f.signWeight) (binade_pos f)
      omega
    · split at h <;> simp at h

theorem rep_last {f : Format} {mag : Nat} {place : Int} (hm : mag ≠ 0) (K : Nat) (q : Int) (hv : (mag : Rat) * p2 place = (K : Rat) * p2 q) (hK : K < 2 ^ (f.fractionBits + 1)) (hq : f.leastPlace ≤ q) :
    ∃ k : Nat, (mag : Rat) * p2 place = (k : Rat) * p2 (lastOf f mag place) := by
  have hK0 : K ≠ 0 := by
    intro e
    subst e
    have h1 := @log2_le_val mag place hm
    have h2 := p2_pos (place + mag.log2)
    rw [hv] at h1
    simp at h1; grind
  have hlog : K.log2 < f.fractionBits + 1 := (Nat.log2_lt hK0).2 hK
  have a1 := @log2_le_val mag place hm
  have a2 := @log2_le_val K q hK0
  have b1 : (mag : Rat) * p2 place < p2 (place + mag.log2 + 1) := by
    have h := cast_lt (log2_spec hm).2
    have := Rat.mul_lt_mul_of_pos_right h (p2_pos place)
    rw [← p2_nat, ← p2_add] at this
    rw [show place + (mag.log2 : Int) + 1 = ((mag.log2 + 1 : Nat) : Int) + place from by omega]; exact this
  have b2 : (K : Rat) * p2 q < p2 (q + K.log2 + 1) := by
    have h := cast_lt (log2_spec hK0).2
    have := Rat.mul_lt_mul_of_pos_right h (p2_pos q)
    rw [← p2_nat, ← p2_add] at this
    rw [show q + (K.log2 : Int) + 1 = ((K.log2 + 1 : Nat) : Int) + q from by omega]; exact this
  have c1 : place + mag.log2 < q + K.log2 + 1 := p2_lt (by grind)
  have c2 : q + K.log2 < place + mag.log2 + 1 := p2_lt (by grind)
  have hle : lastOf f mag place ≤ q := by unfold lastOf; omega
  obtain ⟨d, hd⟩ : ∃ d : Nat, q = lastOf f mag place + d := ⟨(q - lastOf f mag place).toNat, by omega⟩
  refine ⟨K * 2 ^ d, ?_⟩
  rw [hv]
  conv => lhs; rw [hd]
  rw [p2_add, p2_nat, Rat.natCast_mul]; grind

/-- A number that the format has is kept as it is, however it is written. -/
theorem nearest_rep (f : Format) (g : Good f) (s : Bool) (mag : Nat) (place : Int) (h : (mag : Rat) * p2 place < p2 (topOf f + 1)) (K : Nat) (q : Int) (hv : (mag : Rat) * p2 place = (K : Rat) * p2 q) (hK : K < 2 ^ (f.fractionBits + 1)) (hq : f.leastPlace ≤ q) :
    ∃ (m : Nat) (e : Int), f.read (f.nearest s mag place) = .number s m e ∧ (m : Rat) * p2 e = (mag : Rat) * p2 place := by
  by_cases hm : mag = 0
  · exact nearest_exact f g s mag place h 0 (fun hh => absurd hm hh)
  · obtain ⟨k, hk⟩ := rep_last (f := f) hm K q hv hK hq
    exact nearest_exact f g s mag place h k (fun _ => hk)

/-! ### Whole numbers -/
theorem ofInt_isp (k : FloatKind) (g : Good k.format) (n : Nat) (hn : n < 2 ^ (k.format.fractionBits + 1)) (hl : k.format.leastPlace ≤ 0) (ht : (n : Rat) < p2 (topOf k.format + 1)) : Isp k.format (floatOfInt k (n : Int)) (n : Rat) := by
  have e0 : (decide ((n : Int) < 0)) = false := by simp
  have hval : (n : Rat) * p2 0 = (n : Rat) := by rw [p2_zero]; grind
  obtain ⟨m, e, h1, h2⟩ := nearest_small k.format g false n 0 (by rw [hval]; exact ht) hn hl
  refine ⟨m, e, ?_, by rw [h2, hval]⟩
  show k.format.read (k.format.nearest (decide ((n : Int) < 0)) ((n : Int).natAbs) 0) = _
  rw [e0, Int.natAbs_natCast]; exact h1

theorem topS : topOf single = 126 := by decide
theorem topD : topOf double = 1022 := by decide

theorem of32 (n : Nat) (hn : n < 16777216) : Isp single (floatOfInt .f32 (n : Int)) (n : Rat) :=
  ofInt_isp .f32 good_single n hn (by decide) (by
    have h1 : (n : Rat) < p2 (24 : Nat) := by rw [p2_nat]; exact cast_lt hn
    have h2 : p2 ((24 : Nat) : Int) ≤ p2 (topOf FloatKind.f32.format + 1) := p2_mono (by decide)
    grind)

theorem of64 (n : Nat) (hn : n < 9007199254740992) : Isp double (floatOfInt .f64 (n : Int)) (n : Rat) :=
  ofInt_isp .f64 good_double n hn (by decide) (by
    have h1 : (n : Rat) < p2 (53 : Nat) := by rw [p2_nat]; exact cast_lt hn
    have h2 : p2 ((53 : Nat) : Int) ≤ p2 (topOf FloatKind.f64.format + 1) := p2_mono (by decide)
    grind)

/-! ### The product -/
theorem mul_eq {f : Format} {x y : Nat} {m n : Nat} {i j : Int} (hx : f.read x = .number false m i) (hy : f.read y = .number false n j) : f.mul x y = some (f.nearest false (m * n) (i + j)) := by
  unfold Format.mul
  rw [hx, hy]; rfl
theorem mul_val (m n : Nat) (i j : Int) : ((m * n : Nat) : Rat) * p2 (i + j) = ((m : Rat) * p2 i) * ((n : Rat) * p2 j) := by
  rw [p2_add, Rat.natCast_mul]; grind

theorem mul_isp {f : Format} (g : Good f) {x y : Nat} {a b : Rat} (hx : Isp f x a) (hy : Isp f y b) (h : a * b < p2 (topOf f + 1)) :
    ∃ r c, f.mul x y = some r ∧ Isp f r c ∧ c ≤ a * b + (a * b * ulp f + tiny f) ∧ a * b ≤ c + (a * b * ulp f + tiny f) := by
  obtain ⟨m, i, hx, rfl⟩ := hx
  obtain ⟨n, j, hy, rfl⟩ := hy
  rw [← mul_val] at h ⊢
  obtain ⟨m', e', h1, h2, h3⟩ := nearest_spec f g false (m * n) (i + j) h
  exact ⟨_, _, mul_eq hx hy, ⟨m', e', h1, rfl⟩, h2, h3⟩

theorem mul_rep {f : Format} (g : Good f) {x y : Nat} {a b : Rat} (hx : Isp f x a) (hy : Isp f y b) (h : a * b < p2 (topOf f + 1)) (K : Nat) (q : Int) (hv : a * b = (K : Rat) * p2 q) (hK : K < 2 ^ (f.fractionBits + 1)) (hq : f.leastPlace ≤ q) :
    ∃ r, f.mul x y = some r ∧ Isp f r (a * b) := by
  obtain ⟨m, i, hx, rfl⟩ := hx
  obtain ⟨n, j, hy, rfl⟩ := hy
  rw [← mul_val] at h hv ⊢
  obtain ⟨m', e', h1, h2⟩ := nearest_rep f g false (m * n) (i + j) h K q hv hK hq
  exact ⟨_, mul_eq hx hy, m', e', h1, h2.symm⟩

/-! ### The sum -/
theorem sum_false {m n : Nat} {i j : Int} : ∃ mag : Nat, Datum.sum (.number false m i) (.number false n j) = some (.number false mag (min i j)) ∧ (mag : Rat) * p2 (min i j) = (m : Rat) * p2 i + (n : Rat) * p2 j := by
  refine ⟨m * 2 ^ (i - min i j).toNat + n * 2 ^ (j - min i j).toNat, ?_, ?_⟩
  · unfold Datum.sum signed
    simp only [Nat.shiftLeft_eq, Bool.false_eq_true, if_false]
    generalize m * 2 ^ (i - min i j).toNat = A
    generalize n * 2 ^ (j - min i j).toNat = B
    have e1 : ((A : Int) + (B : Int)) = ((A + B : Nat) : Int) := by omega
    rw [e1, Int.natAbs_natCast]
    congr 2
    split
    · rfl
    · simp; omega
  · have a1 : p2 i = p2 (min i j) * ((2 ^ (i - min i j).toNat : Nat) : Rat) := by
      rw [← p2_nat, ← p2_add]; congr 1; omega
    have a2 : p2 j = p2 (min i j) * ((2 ^ (j - min i j).toNat : Nat) : Rat) := by
      rw [← p2_nat, ← p2_add]; congr 1; omega
    conv => rhs; rw [a1, a2]
    rw [Rat.natCast_add, Rat.natCast_mul, Rat.natCast_mul]; grind

theorem add_isp {f : Format} (g : Good f) {x y : Nat} {a b : Rat} (hx : Isp f x a) (hy : Isp f y b) (h : a + b < p2 (topOf f + 1)) :
    ∃ r c, f.add x y = some r ∧ Isp f r c ∧ c ≤ a + b + ((a + b) * ulp f + tiny f) ∧ a + b ≤ c + ((a + b) * ulp f + tiny f) := by
  obtain ⟨m, i, hx, rfl⟩ := hx
  obtain ⟨n, j, hy, rfl⟩ := hy
  obtain ⟨mag, h1, h2⟩ := @sum_false m n i j
  rw [← h2] at h ⊢
  obtain ⟨m', e', r1, r2, r3⟩ := nearest_spec f g false mag (min i j) h
  refine ⟨_, _, ?_, ⟨m', e', r1, rfl⟩, r2, r3⟩
  unfold Format.add
  rw [hx, hy, h1]; rfl

theorem add_rep {f : Format} (g : Good f) {x y : Nat} {a b : Rat} (hx : Isp f x a) (hy : Isp f y b) (h : a + b < p2 (topOf f + 1)) (K : Nat) (q : Int) (hv : a + b = (K : Rat) * p2 q) (hK : K < 2 ^ (f.fractionBits + 1)) (hq : f.leastPlace ≤ q) :
    ∃ r, f.add x y = some r ∧ Isp f r (a + b) := by
  obtain ⟨m, i, hx, rfl⟩ := hx
  obtain ⟨n, j, hy, rfl⟩ := hy
  obtain ⟨mag, h1, h2⟩ := @sum_false m n i j
  rw [← h2] at h hv ⊢
  obtain ⟨m', e', r1, r2⟩ := nearest_rep f g false mag (min i j) h K q hv hK hq
  refine ⟨_, ?_, m', e', r1, r2.symm⟩
  unfold Format.add
  rw [hx, hy, h1]; rfl

/-! ### The difference -/
theorem sum_diff {m n : Nat} {i j : Int} : ∃ (s : Bool) (mag : Nat), Datum.sum (.number false m i) (.number true n j) = some (.number s mag (min i j)) ∧ sv s mag (min i j) = (m : Rat) * p2 i - (n : Rat) * p2 j := by
  refine ⟨_, _, rfl, ?_⟩
  unfold signed
  simp only [Nat.shiftLeft_eq, Bool.false_eq_true, if_false, if_true]
  have a1 : p2 i = p2 (min i j) * ((2 ^ (i - min i j).toNat : Nat) : Rat) := by
    rw [← p2_nat, ← p2_add]; congr 1; omega
  have a2 : p2 j = p2 (min i j) * ((2 ^ (j - min i j).toNat : Nat) : Rat) := by
    rw [← p2_nat, ← p2_add]; congr 1; omega
  have hr : (m : Rat) * p2 i - (n : Rat) * p2 j = (((m * 2 ^ (i - min i j).toNat : Nat) : Rat) - ((n * 2 ^ (j - min i j).toNat : Nat) : Rat)) * p2 (min i j) := by
    conv => lhs; rw [a1, a2]
    rw [Rat.natCast_mul, Rat.natCast_mul]; grind
  rw [hr]
  generalize m * 2 ^ (i - min i j).toNat = A
  generalize n * 2 ^ (j - min i j).toNat = B
  unfold sv
  rcases Nat.lt_or_ge A B with hh | hh
  · have e1 : ((A : Int) + -(B : Int)).natAbs = B - A := by omega
    have e2 : (if (A : Int) + -(B : Int) = 0 then (false && true) else decide ((A : Int) + -(B : Int) < 0)) = true := by
      rw [if_neg (by omega)]; simp; omega
    rw [e1, e2, if_pos rfl]
    have : ((B - A : Nat) : Rat) = (B : Rat) - (A : Rat) := by
      have h : (B : Nat) = (B - A) + A := by omega
      have h' : (B : Rat) = ((B - A : Nat) : Rat) + (A : Rat) := by rw [← Rat.natCast_add, ← h]
      grind
    rw [this]; grind
  · have e1 : ((A : Int) + -(B : Int)).natAbs = A - B := by omega
    have e2 : (if (A : Int) + -(B : Int) = 0 then (false && true) else decide ((A : Int) + -(B : Int) < 0)) = false := by
      split
      · rfl
      · simp; omega
    rw [e1, e2, if_neg (by simp)]
    have : ((A - B : Nat) : Rat) = (A : Rat) - (B : Rat) := by
      have h : (A : Nat) = (A - B) + B := by omega
      have h' : (A : Rat) = ((A - B : Nat) : Rat) + (B : Rat) := by rw [← Rat.natCast_add, ← h]
      grind
    rw [this]

/-- The difference of two numbers of at most B: its error is at most half a unit of B. -/
theorem sub_is {f : Format} (g : Good f) {x y : Nat} {a b B : Rat} (hx : Isp f x a) (hy : Isp f y b) (h1 : a - b ≤ B) (h2 : b - a ≤ B) (h : B < p2 (topOf f + 1)) :
    ∃ r c, f.sub x y = some r ∧ Is f r c ∧ c ≤ a - b + (B * ulp f + tiny f) ∧ a - b ≤ c + (B * ulp f + tiny f) := by
  obtain ⟨m, i, hx, rfl⟩ := hx
  obtain ⟨n, j, hy, rfl⟩ := hy
  obtain ⟨s, mag, q1, q2⟩ := @sum_diff m n i j
  have hu := ulp_pos f
  have hmag : (mag : Rat) * p2 (min i j) ≤ B := by
    unfold sv at q2
    split at q2 <;> grind
  obtain ⟨m', e', r1, r2, r3⟩ := nearest_spec f g s mag (min i j) (by grind)
  have hB := Rat.mul_le_mul_of_nonneg_right hmag (Rat.le_of_lt hu)
  refine ⟨_, sv s m' e', ?_, ⟨s, m', e', r1, rfl⟩, ?_, ?_⟩
  · unfold Format.sub
    rw [hx, hy]
    show (Datum.sum (.number false m i) (.number true n j)).map f.write = _
    rw [q1]; rfl
  · rw [← q2]; unfold sv; split <;> grind
  · rw [← q2]; unfold sv; split <;> grind

/-! ### The order -/
theorem sv_int (s : Bool) (m : Nat) (e b : Int) (h : b ≤ e) : sv s m e = ((signed s m (e - b).toNat : Int) : Rat) * p2 b := by
  have a1 : p2 e = p2 b * ((2 ^ (e - b).toNat : Nat) : Rat) := by
    rw [← p2_nat, ← p2_add]; congr 1; omega
  unfold sv signed
  rw [Nat.shiftLeft_eq]
  split
  · rw [a1, Rat.intCast_neg, Rat.intCast_natCast, Rat.natCast_mul]; grind
  · rw [a1, Rat.intCast_natCast, Rat.natCast_mul]; grind

theorem order_is {f : Format} {x y : Nat} {a b : Rat} (hx : Is f x a) (hy : Is f y b) : (a < b → f.order x y = some .lt) ∧ (a = b → f.order x y = some .eq) ∧ (b < a → f.order x y = some .gt) := by
  obtain ⟨s, m, i, hx, rfl⟩ := hx
  obtain ⟨t, n, j, hy, rfl⟩ := hy
  have hp := p2_pos (min i j)
  rw [sv_int s m i (min i j) (by omega), sv_int t n j (min i j) (by omega)]
  unfold Format.order
  rw [hx, hy]
  show _ ∧ _ ∧ _
  simp only [Datum.order]
  generalize signed s m (i - min i j).toNat = A
  generalize signed t n (j - min i j).toNat = B
  refine ⟨fun h => ?_, fun h => ?_, fun h => ?_⟩
  · congr 1; rw [Int.compare_eq_lt]
    rcases Int.lt_or_le A B with hh | hh
    · exact hh
    · have := Rat.mul_le_mul_of_nonneg_right (Rat.intCast_le_intCast.2 hh) (Rat.le_of_lt hp); grind
  · congr 1; rw [Int.compare_eq_eq]
    rcases Int.lt_trichotomy A B with hh | hh | hh
    · have := Rat.mul_lt_mul_of_pos_right (Rat.intCast_lt_intCast.2 hh) hp; grind
    · exact hh
    · have := Rat.mul_lt_mul_of_pos_right (Rat.intCast_lt_intCast.2 hh) hp; grind
  · congr 1; rw [Int.compare_eq_gt]
    rcases Int.lt_or_le B A with hh | hh
    · exact hh
    · have := Rat.mul_le_mul_of_nonneg_right (Rat.intCast_le_intCast.2 hh) (Rat.le_of_lt hp); grind

/-! ### From single to double -/
theorem widen {x : Nat} {a : Rat} (h : Isp single x a) : ∃ r, floatToFloatBits .f32 x .f64 = some r ∧ Isp double r a := by
  obtain ⟨m, e, h1, rfl⟩ := h
  obtain ⟨hm, he⟩ := read_bounds good_single h1
  have hle : e ≤ 104 := by
    unfold Format.read at h1
    simp only at h1
    split at h1
    · injection h1 with _ _ c
      subst c; decide
    · split at h1
      · rename_i hh
        injection h1 with _ _ c
        subst c
        have hd : (x % single.signWeight) / single.binade < 2 ^ single.exponentBits - 1 := Nat.div_lt_of_lt_mul (by rw [Nat.mul_comm]; exact hh)
        have h255 : 2 ^ single.exponentBits - 1 = 255 := rfl
        have : single.leastPlace = -149 := by decide
        omega
      · split at h1 <;> simp at h1
  have hlt : (m : Rat) * p2 e < p2 (topOf double + 1) := by
    have a1 := Rat.mul_lt_mul_of_pos_right (cast_lt hm) (p2_pos e)
    rw [← p2_nat, ← p2_add] at a1
    have a2 : p2 (((single.fractionBits + 1 : Nat) : Int) + e) ≤ p2 (topOf double + 1) := p2_mono (by
      rw [topD]; have : single.fractionBits = 23 := rfl
      omega)
    grind
  obtain ⟨m', e', r1, r2⟩ := nearest_small double good_double false m e hlt (Nat.lt_of_lt_of_le hm (by decide)) (by
    have : single.leastPlace = -149 := by decide
    have : double.leastPlace = -1074 := by decide
    omega)
  refine ⟨_, ?_, m', e', r1, r2.symm⟩
  unfold floatToFloatBits
  rw [if_neg (by decide)]
  show (match single.read x with | .nan _ _ => none | .infinity s => _ | .number s m e => _) = _
  rw [h1]
  show (if (double.read (double.nearest false m e)).isInfinity then none else some (double.nearest false m e)) = _
  rw [r1]; rfl
end Go.Proofs.Qxb6602560a.Fl
