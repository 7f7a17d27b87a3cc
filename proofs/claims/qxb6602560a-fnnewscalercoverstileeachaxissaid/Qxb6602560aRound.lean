/- What 'Format.nearest' gives, against the rational number that it rounds. -/
import Derived.Test.Qxb6602560aFloat
namespace Go.Proofs.Qxb6602560a.Fl
open Ieee

/-- The value of a number with its sign. -/
def sv (s : Bool) (m : Nat) (e : Int) : Rat := if s then -((m : Rat) * p2 e) else (m : Rat) * p2 e

/-- A format of at least two bits in each field whose numbers reach 1 (single, double). -/
structure Good (f : Format) : Prop where
  eb : 3 ≤ f.exponentBits
  low : f.leastPlace + f.fractionBits + 1 ≤ 0
  bin : f.binade = 2 ^ f.fractionBits

theorem good_single : Good single := ⟨by decide, by decide, rfl⟩
theorem good_double : Good double := ⟨by decide, by decide, rfl⟩

/-- The place of the last digit that is kept. -/
def lastOf (f : Format) (mag : Nat) (place : Int) : Int := max (place + mag.log2 - f.fractionBits) f.leastPlace

/-- The greatest exponent for which nothing is said to overflow here. -/
def topOf (f : Format) : Int := f.leastPlace + f.fractionBits + (2 : Int) ^ f.exponentBits - 4

theorem nearest_core (f : Format) (g : Good f) (s : Bool) (mag : Nat) (place : Int) (hm : mag ≠ 0) (htop : place + mag.log2 ≤ topOf f) :
    ∃ (kept : Nat) (m : Nat) (e : Int), f.read (f.nearest s mag place) = .number s m e ∧ (m : Rat) * p2 e = (kept : Rat) * p2 (lastOf f mag place) ∧ kept ≤ 2 ^ (f.fractionBits + 1) ∧
      2 * ((kept : Rat) * p2 (lastOf f mag place)) ≤ 2 * ((mag : Rat) * p2 place) + p2 (lastOf f mag place) ∧ 2 * ((mag : Rat) * p2 place) ≤ 2 * ((kept : Rat) * p2 (lastOf f mag place)) + p2 (lastOf f mag place) ∧
      (lastOf f mag place ≤ place → (kept : Rat) * p2 (lastOf f mag place) = (mag : Rat) * p2 place) := by
  obtain ⟨hlo, hhi⟩ := log2_spec hm
  unfold topOf at htop
  have hl0 : f.leastPlace ≤ lastOf f mag place := Int.le_max_right ..
  have hl1 : place + mag.log2 - f.fractionBits ≤ lastOf f mag place := Int.le_max_left ..
  have hl2 : lastOf f mag place = f.leastPlace ∨ lastOf f mag place = place + mag.log2 - f.fractionBits := by unfold lastOf; omega
  have heb : ((2 : Int) ^ f.exponentBits) = ((2 ^ f.exponentBits : Nat) : Int) := by norm_cast
  have h8 : 8 ≤ 2 ^ f.exponentBits := Nat.le_trans (by decide : 8 ≤ 2 ^ 3) (Nat.pow_le_pow_right (by omega) g.eb)
  unfold Format.nearest
  rw [if_neg hm]
  show ∃ (kept : Nat) (m : Nat) (e : Int), f.read (f.word s (min ((lastOf f mag place - f.leastPlace).toNat * f.binade + Toward.even.cut s (mag <<< (place - lastOf f mag place).toNat) (lastOf f mag place - place).toNat) f.infRung)) = .number s m e ∧ _
  obtain ⟨E, hE⟩ : ∃ E : Nat, lastOf f mag place = f.leastPlace + E := ⟨(lastOf f mag place - f.leastPlace).toNat, by omega⟩
  have hEt : (lastOf f mag place - f.leastPlace).toNat = E := by omega
  have hEb : E + 4 ≤ 2 ^ f.exponentBits := by omega
  rw [hEt]
  generalize hL : lastOf f mag place = L at *
  -- what is kept
  have key : ∃ kept : Nat, Toward.even.cut s (mag <<< (place - L).toNat) (L - place).toNat = kept ∧ kept ≤ 2 ^ (f.fractionBits + 1) ∧ (L = f.leastPlace ∨ 2 ^ f.fractionBits ≤ kept) ∧
      2 * ((kept : Rat) * p2 L) ≤ 2 * ((mag : Rat) * p2 place) + p2 L ∧ 2 * ((mag : Rat) * p2 place) ≤ 2 * ((kept : Rat) * p2 L) + p2 L ∧ (L ≤ place → (kept : Rat) * p2 L = (mag : Rat) * p2 place) := by
    refine ⟨_, rfl, ?_⟩
    have hcut := cut_bound s (mag <<< (place - L).toNat) (L - place).toNat
    generalize Toward.even.cut s (mag <<< (place - L).toNat) (L - place).toNat = kept at hcut
    rcases Int.le_total L place with hp | hp
    · -- nothing is dropped
      obtain ⟨d, hd⟩ : ∃ d : Nat, place = L + d := ⟨(place - L).toNat, by omega⟩
      have e1 : (place - L).toNat = d := by omega
      have e2 : (L - place).toNat = 0 := by omega
      rw [e1, e2, Nat.shiftLeft_eq] at hcut
      have hk : kept = mag * 2 ^ d := by
        have : (2 : Nat) ^ 0 = 1 := rfl
        omega
      have hval : (kept : Rat) * p2 L = (mag : Rat) * p2 place := by
        rw [hk, hd, p2_add, p2_nat, Rat.natCast_mul]; grind
      refine ⟨?_, ?_, ?_, ?_, fun _ => hval⟩
      · rw [hk]
        have h1 : mag * 2 ^ d ≤ 2 ^ (mag.log2 + 1) * 2 ^ d := Nat.mul_le_mul_right _ (by omega)
        have h2 : 2 ^ (mag.log2 + 1) * 2 ^ d ≤ 2 ^ (f.fractionBits + 1) := by
          rw [← Nat.pow_add]; exact Nat.pow_le_pow_right (by omega) (by omega)
        omega
      · rcases hl2 with h | h
        · exact .inl h
        · right
          rw [hk]
          have h1 : 2 ^ mag.log2 * 2 ^ d ≤ mag * 2 ^ d := Nat.mul_le_mul_right _ hlo
          rw [← Nat.pow_add, show mag.log2 + d = f.fractionBits from by omega] at h1
          exact h1
      · have := p2_pos L; grind
      · have := p2_pos L; grind
    · obtain ⟨d, hd⟩ : ∃ d : Nat, L = place + d := ⟨(L - place).toNat, by omega⟩
      have e1 : (place - L).toNat = 0 := by omega
      have e2 : (L - place).toNat = d := by omega
      rw [e1, e2, Nat.shiftLeft_zero] at hcut
      have hpL : p2 L = p2 place * ((2 ^ d : Nat) : Rat) := by rw [hd, p2_add, p2_nat]
      have c1 : 2 * ((kept : Rat) * ((2 ^ d : Nat) : Rat)) ≤ 2 * (mag : Rat) + ((2 ^ d : Nat) : Rat) := by exact_mod_cast hcut.1
      have c2 : 2 * (mag : Rat) ≤ 2 * ((kept : Rat) * ((2 ^ d : Nat) : Rat)) + ((2 ^ d : Nat) : Rat) := by exact_mod_cast hcut.2
      have m1 := Rat.mul_le_mul_of_nonneg_right c1 (Rat.le_of_lt (p2_pos place))
      have m2 := Rat.mul_le_mul_of_nonneg_right c2 (Rat.le_of_lt (p2_pos place))
      have hpos : 0 < 2 ^ d := Nat.two_pow_pos d
      refine ⟨?_, ?_, ?_, ?_, fun h => ?_⟩
      · -- 2 kept 2^d ≤ 2 mag + 2^d < 2 2^(log2+1) + 2^d ≤ (2 2^(fb+1) + 1) 2^d
        have h2 : 2 ^ (mag.log2 + 1) ≤ 2 ^ (f.fractionBits + 1) * 2 ^ d := by
          rw [← Nat.pow_add]; exact Nat.pow_le_pow_right (by omega) (by omega)
        rcases Nat.lt_or_ge (2 ^ (f.fractionBits + 1)) kept with hh | hh
        · have h3 : (2 ^ (f.fractionBits + 1) + 1) * 2 ^ d ≤ kept * 2 ^ d := Nat.mul_le_mul_right _ hh
          rw [Nat.add_mul] at h3
          omega
        · exact hh
      · rcases hl2 with h | h
        · exact .inl h
        · right
          have h2 : 2 ^ mag.log2 = 2 ^ f.fractionBits * 2 ^ d := by
            rw [← Nat.pow_add]; congr 1; omega
          rcases Nat.lt_or_ge kept (2 ^ f.fractionBits) with hh | hh
          · have h3 : (kept + 1) * 2 ^ d ≤ 2 ^ f.fractionBits * 2 ^ d := Nat.mul_le_mul_right _ hh
            rw [Nat.add_mul] at h3
            omega
          · exact hh
      · rw [hpL]; grind
      · rw [hpL]; grind
      · have hd0 : d = 0 := by omega
        subst hd0
        have hk : kept = mag := by
          have : (2 : Nat) ^ 0 = 1 := rfl
          omega
        rw [hk, hd]; simp
  obtain ⟨kept, hk, k1, k2, k3, k4, k5⟩ := key
  rw [hk]
  have hb2 : 2 ^ (f.fractionBits + 1) = 2 * f.binade := by rw [g.bin, Nat.pow_succ]; omega
  have hr : E * f.binade + kept < f.infRung := by
    have h1 : (E + 2) * f.binade + f.binade ≤ f.infRung := by
      unfold Format.infRung
      rw [← Nat.succ_mul]
      exact Nat.mul_le_mul_right _ (by omega)
    have h2 := binade_pos f
    rw [Nat.add_mul] at h1
    omega
  rw [Nat.min_eq_left (by omega)]
  obtain ⟨m, e, hread, hval⟩ := read_rung f s E kept (by omega) (by rcases k2 with h | h; exact .inl (by omega); exact .inr (by rw [g.bin]; exact h)) hr
  refine ⟨kept, m, e, hread, ?_, k1, k3, k4, k5⟩
  rw [hval, hE]

/-- Half a unit of the last digit, against the number. -/
def ulp (f : Format) : Rat := p2 (-(f.fractionBits : Int) - 1)
/-- Half of the least number. -/
def tiny (f : Format) : Rat := p2 (f.leastPlace - 1)
theorem ulp_pos (f : Format) : 0 < ulp f := p2_pos _
theorem tiny_pos (f : Format) : 0 < tiny f := p2_pos _

theorem log2_le_val {mag : Nat} {place : Int} (hm : mag ≠ 0) : p2 (place + mag.log2) ≤ (mag : Rat) * p2 place := by
  have h := cast_le (log2_spec hm).1
  rw [p2_add, p2_nat]
  have := Rat.mul_le_mul_of_nonneg_right h (Rat.le_of_lt (p2_pos place))
  grind

theorem top_of {f : Format} {mag : Nat} {place : Int} (hm : mag ≠ 0) (h : (mag : Rat) * p2 place < p2 (topOf f + 1)) : place + mag.log2 ≤ topOf f := by
  have h1 := @log2_le_val mag place hm
  have : place + mag.log2 < topOf f + 1 := p2_lt (by grind)
  omega

theorem last_le {f : Format} {mag : Nat} {place : Int} (hm : mag ≠ 0) : p2 (lastOf f mag place) ≤ 2 * ((mag : Rat) * p2 place * ulp f + tiny f) := by
  have h1 := @log2_le_val mag place hm
  have e1 : 2 * ulp f = p2 (-(f.fractionBits : Int)) := by
    unfold ulp; rw [← p2_succ]; congr 1; omega
  have e2 : 2 * tiny f = p2 f.leastPlace := by
    unfold tiny; rw [← p2_succ]; congr 1; omega
  have hu := ulp_pos f
  have ht := tiny_pos f
  have hv : 0 ≤ (mag : Rat) * p2 place := Rat.mul_nonneg (cast_nn _) (Rat.le_of_lt (p2_pos _))
  have hvu : 0 ≤ (mag : Rat) * p2 place * ulp f := Rat.mul_nonneg hv (Rat.le_of_lt hu)
  unfold lastOf
  rcases Int.le_total (place + mag.log2 - f.fractionBits) f.leastPlace with h | h
  · rw [Int.max_eq_right h]; grind
  · rw [Int.max_eq_left h, show place + (mag.log2 : Int) - f.fractionBits = (place + mag.log2) + -(f.fractionBits : Int) from by omega, p2_add, ← e1]
    have := Rat.mul_le_mul_of_nonneg_right h1 (show 0 ≤ 2 * ulp f by grind)
    grind

/-- ROUNDING: at most half a unit of the last digit away (and half of the least number). -/
theorem nearest_spec (f : Format) (g : Good f) (s : Bool) (mag : Nat) (place : Int) (h : (mag : Rat) * p2 place < p2 (topOf f + 1)) :
    ∃ (m : Nat) (e : Int), f.read (f.nearest s mag place) = .number s m e ∧ (m : Rat) * p2 e ≤ (mag : Rat) * p2 place + ((mag : Rat) * p2 place * ulp f + tiny f) ∧ (mag : Rat) * p2 place ≤ (m : Rat) * p2 e + ((mag : Rat) * p2 place * ulp f + tiny f) := by
  by_cases hm : mag = 0
  · subst hm
    have hr : (0 : Nat) < f.infRung := by
      unfold Format.infRung
      have h1 : 8 ≤ 2 ^ f.exponentBits := Nat.le_trans (by decide : 8 ≤ 2 ^ 3) (Nat.pow_le_pow_right (by omega) g.eb)
      exact Nat.mul_pos (by omega) (binade_pos f)
    have ht := tiny_pos f
    refine ⟨0, f.leastPlace, ?_, ?_, ?_⟩
    · unfold Format.nearest
      rw [if_pos rfl, read_word f s 0 hr, if_pos (binade_pos f)]
    · simp; grind
    · simp; grind
  · obtain ⟨kept, m, e, h1, h2, _, h4, h5, _⟩ := nearest_core f g s mag place hm (top_of hm h)
    have hl := @last_le f mag place hm
    exact ⟨m, e, h1, by grind, by grind⟩

/-- A number that the format has is kept as it is. -/
theorem nearest_exact (f : Format) (g : Good f) (s : Bool) (mag : Nat) (place : Int) (h : (mag : Rat) * p2 place < p2 (topOf f + 1)) (k : Nat) (hk : mag ≠ 0 → (mag : Rat) * p2 place = (k : Rat) * p2 (lastOf f mag place)) :
    ∃ (m : Nat) (e : Int), f.read (f.nearest s mag place) = .number s m e ∧ (m : Rat) * p2 e = (mag : Rat) * p2 place := by
  by_cases hm : mag = 0
  · subst hm
    have hr : (0 : Nat) < f.infRung := by
      unfold Format.infRung
      have h1 : 8 ≤ 2 ^ f.exponentBits := Nat.le_trans (by decide : 8 ≤ 2 ^ 3) (Nat.pow_le_pow_right (by omega) g.eb)
      exact Nat.mul_pos (by omega) (binade_pos f)
    refine ⟨0, f.leastPlace, ?_, by simp⟩
    unfold Format.nearest
    rw [if_pos rfl, read_word f s 0 hr, if_pos (binade_pos f)]
  · obtain ⟨kept, m, e, h1, h2, _, h4, h5, _⟩ := nearest_core f g s mag place hm (top_of hm h)
    refine ⟨m, e, h1, ?_⟩
    have hk' := hk hm
    rw [hk'] at h4 h5
    have hp := p2_pos (lastOf f mag place)
    have hkk : kept = k := by
      rcases Nat.lt_trichotomy kept k with hh | hh | hh
      · exfalso
        have := Rat.mul_le_mul_of_nonneg_right (cast_le hh) (Rat.le_of_lt hp)
        rw [Nat.succ_eq_add_one, Rat.natCast_add] at this
        grind
      · exact hh
      · exfalso
        have := Rat.mul_le_mul_of_nonneg_right (cast_le hh) (Rat.le_of_lt hp)
        rw [Nat.succ_eq_add_one, Rat.natCast_add] at this
        grind
    rw [h2, hk', hkk]

theorem nearest_small (f : Format) (g : Good f) (s : Bool) (mag : Nat) (place : Int) (h : (mag : Rat) * p2 place < p2 (topOf f + 1)) (h1 : mag < 2 ^ (f.fractionBits + 1)) (h2 : f.leastPlace ≤ place) :
    ∃ (m : Nat) (e : Int), f.read (f.nearest s mag place) = .number s m e ∧ (m : Rat) * p2 e = (mag : Rat) * p2 place := by
  by_cases hm : mag = 0
  · exact nearest_exact f g s mag place h 0 (fun hh => absurd hm hh)
  · obtain ⟨kept, m, e, r1, r2, _, _, _, r5⟩ := nearest_core f g s mag place hm (top_of hm h)
    have hlog : mag.log2 < f.fractionBits + 1 := (Nat.log2_lt hm).2 h1
    refine ⟨m, e, r1, ?_⟩
    rw [r2, r5]
    unfold lastOf; omega

/-- What is at most 1 is rounded to at most 1. -/
theorem nearest_le_one (f : Format) (g : Good f) (s : Bool) (mag : Nat) (place : Int) (h : (mag : Rat) * p2 place ≤ 1) (ht : 0 ≤ topOf f) :
    ∃ (m : Nat) (e : Int), f.read (f.nearest s mag place) = .number s m e ∧ (m : Rat) * p2 e ≤ 1 := by
  have htop : (1 : Rat) < p2 (topOf f + 1) := by
    have h1 : p2 1 ≤ p2 (topOf f + 1) := p2_mono (by omega)
    rw [p2_one] at h1; grind
  by_cases hm : mag = 0
  · obtain ⟨m, e, h1, h2⟩ := nearest_exact f g s mag place (by grind) 0 (fun hh => absurd hm hh)
    exact ⟨m, e, h1, by rw [h2]; exact h⟩
  · have hv := @log2_le_val mag place hm
    have hlog : place + mag.log2 < 1 := p2_lt (by rw [p2_one]; grind)
    by_cases h0 : place + mag.log2 = 0
    · -- it is 1 itself
      have h1 : (mag : Rat) * p2 place = 1 := by rw [h0, p2_zero] at hv; grind
      have hlast : lastOf f mag place = -(f.fractionBits : Int) := by
        have := g.low
        unfold lastOf; omega
      obtain ⟨m, e, r1, r2⟩ := nearest_exact f g s mag place (by grind) (2 ^ f.fractionBits) (fun _ => by
        rw [h1, hlast, ← p2_nat, ← p2_add, show (f.fractionBits : Int) + -(f.fractionBits : Int) = 0 from by omega, p2_zero])
      exact ⟨m, e, r1, by rw [r2]; exact h⟩
    · obtain ⟨kept, m, e, r1, r2, r3, _⟩ := nearest_core f g s mag place hm (by omega)
      refine ⟨m, e, r1, ?_⟩
      rw [r2]
      have h1 := Rat.mul_le_mul_of_nonneg_right (cast_le r3) (Rat.le_of_lt (p2_pos (lastOf f mag place)))
      rw [← p2_nat, ← p2_add] at h1
      have h2 : p2 (((f.fractionBits + 1 : Nat) : Int) + lastOf f mag place) ≤ p2 0 := p2_mono (by
        have := g.low
        unfold lastOf; omega)
      rw [p2_zero] at h2
      grind
end Go.Proofs.Qxb6602560a.Fl
