/- The second algorithm of the law, as plain mathematics: the integral of the row, and what a sample takes of it. -/
import Derived.Test.Qxb6602560aAcross
namespace Go.Proofs.Qxb6602560a
set_option linter.unusedVariables false

/-- The sum of the first x bytes; the integral of the row up to p, each byte m wide. -/
def preS (l : List Nat) (x : Nat) : Nat := sumB l 0 x
def inte (l : List Nat) (m p : Nat) : Nat := m * preS l (p / m) + (p % m) * l.getD (p / m) 0

theorem preS_succ (l : List Nat) (x : Nat) : preS l (x + 1) = preS l x + l.getD x 0 := by
  show sumB l 0 x + l.getD (0 + x) 0 = _
  rw [Nat.zero_add]; rfl

theorem sumB_preS (l : List Nat) (lo : Nat) : ∀ t, preS l lo + sumB l lo t = preS l (lo + t)
  | 0 => rfl
  | t + 1 => by
    have h := sumB_preS l lo t
    show preS l lo + (sumB l lo t + l.getD (lo + t) 0) = preS l (lo + t + 1)
    rw [preS_succ, ← h]; omega

theorem inte_at (l : List Nat) (m x p : Nat) (hm : 0 < m) (h1 : x * m ≤ p) (h2 : p ≤ (x + 1) * m) : inte l m p = m * preS l x + (p - x * m) * l.getD x 0 := by
  unfold inte
  rcases Nat.lt_or_ge p ((x + 1) * m) with h | h
  · have hd : p / m = x := by
      have e : p = m * x + (p - x * m) := by rw [Nat.mul_comm]; omega
      rw [Nat.add_mul] at h
      rw [e, Nat.mul_add_div hm, Nat.div_eq_of_lt (by omega), Nat.add_zero]
    have hmod : p % m = p - x * m := by
      have := Nat.div_add_mod p m
      rw [hd, Nat.mul_comm] at this; omega
    rw [hd, hmod]
  · have e : p = (x + 1) * m := by omega
    subst e
    rw [Nat.mul_div_cancel _ hm, Nat.mul_mod_left, preS_succ, Nat.add_mul, Nat.one_mul, Nat.add_sub_cancel_left, Nat.mul_add]
    omega

theorem inte_step (l : List Nat) (m x p q : Nat) (hm : 0 < m) (h1 : x * m ≤ p) (h2 : p ≤ q) (h3 : q ≤ (x + 1) * m) : inte l m p + l.getD x 0 * (q - p) = inte l m q := by
  rw [inte_at l m x p hm h1 (by omega), inte_at l m x q hm (by omega) h3]
  have e : q - x * m = (p - x * m) + (q - p) := by omega
  rw [e, Nat.add_mul, Nat.mul_comm (l.getD x 0)]
  omega

/-- What sample i takes, in units of 1/n. -/
def takes (l : List Nat) (n m i : Nat) : Nat := inte l m ((i + 1) * n) - inte l m (i * n)

/-- One round of the merge: from (i, x, p) to the next. -/
structure Mrg (l : List Nat) (n m i x p : Nat) (acc : Nat → Nat) : Prop where
  hi : i ≤ m
  hx : x ≤ n
  hp : p = max (i * n) (x * m)
  hpm : p ≤ m * n
  hd : ∀ j, j < i → acc j = takes l n m j
  hc : acc i + inte l m (i * n) = inte l m p
  hz : ∀ j, i < j → acc j = 0
  hin : i * n ≤ p ∧ (i < m → p ≤ (i + 1) * n)
  hxm : x * m ≤ p ∧ (x < n → p ≤ (x + 1) * m)

theorem Mrg.start (l : List Nat) (n m : Nat) : Mrg l n m 0 0 0 (fun _ => 0) :=
  ⟨Nat.zero_le _, Nat.zero_le _, by simp, Nat.zero_le _, fun j hj => by omega, by simp, fun _ _ => rfl, ⟨by simp, fun _ => Nat.zero_le _⟩, ⟨by simp, fun _ => Nat.zero_le _⟩⟩

theorem mul_lt_succ {a n : Nat} (hn : 1 ≤ n) : a * n < (a + 1) * n := by rw [Nat.add_mul]; omega

/-- The end of sample i comes before the end of byte x: i goes on. -/
theorem Mrg.stepI {l : List Nat} {n m i x p : Nat} {acc acc' : Nat → Nat} (h : Mrg l n m i x p acc) (hn : 1 ≤ n) (hm : 1 ≤ m) (hi : i < m) (hx : x < n) (hlt : (i + 1) * n < (x + 1) * m)
    (ha : acc' i = acc i + l.getD x 0 * ((i + 1) * n - p)) (ho : ∀ j, j ≠ i → acc' j = acc j) : Mrg l n m (i + 1) x ((i + 1) * n) acc' := by
  obtain ⟨h1, h2, h3, h4, h5, h6, h7, ⟨h8, h9⟩, ⟨h10, h11⟩⟩ := h
  have hpn := h9 hi
  have hst := inte_step l m x p ((i + 1) * n) (by omega) h10 hpn (by omega)
  have hmn : (i + 1) * n ≤ m * n := Nat.mul_le_mul_right n (by omega)
  refine ⟨by omega, by omega, ?_, hmn, fun j hj => ?_, ?_, fun j hj => ?_, ⟨Nat.le_refl _, fun _ => Nat.mul_le_mul_right n (by omega)⟩, ⟨by omega, fun _ => by omega⟩⟩
  · rw [Nat.max_eq_left (by omega)]
  · by_cases e : j = i
    · subst e; unfold takes; omega
    · rw [ho j e]; exact h5 j (by omega)
  · rw [ho (i + 1) (by omega), h7 (i + 1) (by omega)]; omega
  · rw [ho j (by omega)]; exact h7 j (by omega)

/-- The end of byte x comes before the end of sample i: x goes on. -/
theorem Mrg.stepX {l : List Nat} {n m i x p : Nat} {acc acc' : Nat → Nat} (h : Mrg l n m i x p acc) (hn : 1 ≤ n) (hm : 1 ≤ m) (hi : i < m) (hx : x < n) (hlt : (x + 1) * m < (i + 1) * n)
    (ha : acc' i = acc i + l.getD x 0 * ((x + 1) * m - p)) (ho : ∀ j, j ≠ i → acc' j = acc j) : Mrg l n m i (x + 1) ((x + 1) * m) acc' := by
  obtain ⟨h1, h2, h3, h4, h5, h6, h7, ⟨h8, h9⟩, ⟨h10, h11⟩⟩ := h
  have hpn := h11 hx
  have hst := inte_step l m x p ((x + 1) * m) (by omega) h10 hpn (Nat.le_refl _)
  have hmn : (x + 1) * m ≤ m * n := by rw [Nat.mul_comm]; exact Nat.mul_le_mul_left m (by omega)
  refine ⟨by omega, by omega, ?_, hmn, fun j hj => ?_, by omega, fun j hj => ?_, ⟨by omega, fun _ => by omega⟩, ⟨Nat.le_refl _, fun _ => Nat.mul_le_mul_right m (by omega)⟩⟩
  · rw [Nat.max_eq_right (by omega)]
  · rw [ho j (by omega)]; exact h5 j hj
  · rw [ho j (by omega)]; exact h7 j hj

/-- Both end at once. -/
theorem Mrg.stepB {l : List Nat} {n m i x p : Nat} {acc acc' : Nat → Nat} (h : Mrg l n m i x p acc) (hn : 1 ≤ n) (hm : 1 ≤ m) (hi : i < m) (hx : x < n) (heq : (x + 1) * m = (i + 1) * n)
    (ha : acc' i = acc i + l.getD x 0 * ((i + 1) * n - p)) (ho : ∀ j, j ≠ i → acc' j = acc j) : Mrg l n m (i + 1) (x + 1) ((i + 1) * n) acc' := by
  obtain ⟨h1, h2, h3, h4, h5, h6, h7, ⟨h8, h9⟩, ⟨h10, h11⟩⟩ := h
  have hpn := h9 hi
  have hst := inte_step l m x p ((i + 1) * n) (by omega) h10 hpn (by omega)
  have hmn : (i + 1) * n ≤ m * n := Nat.mul_le_mul_right n (by omega)
  refine ⟨by omega, by omega, ?_, hmn, fun j hj => ?_, ?_, fun j hj => ?_, ⟨Nat.le_refl _, fun _ => Nat.mul_le_mul_right n (by omega)⟩, ⟨by omega, fun _ => ?_⟩⟩
  · rw [Nat.max_eq_left (by omega)]
  · by_cases e : j = i
    · subst e; unfold takes; omega
    · rw [ho j e]; exact h5 j (by omega)
  · rw [ho (i + 1) (by omega), h7 (i + 1) (by omega)]; omega
  · rw [ho j (by omega)]; exact h7 j (by omega)
  · rw [← heq]; exact Nat.mul_le_mul_right m (by omega)

/-- When one is at its end, so is the other: every sample has what it takes. -/
theorem Mrg.done {l : List Nat} {n m i x p : Nat} {acc : Nat → Nat} (h : Mrg l n m i x p acc) (hn : 1 ≤ n) (hm : 1 ≤ m) (he : i = m ∨ x = n) : ∀ j, j < m → acc j = takes l n m j := by
  obtain ⟨h1, h2, h3, h4, h5, h6, h7, ⟨h8, h9⟩, ⟨h10, h11⟩⟩ := h
  intro j hj
  rcases he with rfl | rfl
  · exact h5 j hj
  · have hp : p = m * x := by
      have : x * m = m * x := Nat.mul_comm _ _
      omega
    rcases Nat.lt_or_ge i m with hi | hi
    · -- p = m x ≤ (i + 1) x, so i + 1 = m, and sample i is whole
      have h12 := h9 hi
      have h13 : m ≤ i + 1 := by
        rcases Nat.lt_or_ge (i + 1) m with h | h
        · have : (i + 1) * x < m * x := Nat.mul_lt_mul_of_pos_right h (by omega)
          omega
        · exact h
      have hm1 : m = i + 1 := by omega
      by_cases e : j = i
      · subst e; unfold takes
        rw [← hm1, ← hp]; omega
      · exact h5 j (by omega)
    · exact h5 j (by omega)

/-- What a sample takes, by its cover. -/
theorem takes_cover (l : List Nat) (n m i : Nat) (hn : 1 ≤ n) (hm : 1 ≤ m) (hi : i < m) (hle : cLo n m i ≤ cHi n m i) :
    takes l n m i = m * sumB l (cLo n m i) (cHi n m i - cLo n m i) + (cLo n m i * m - i * n) * l.getD (cLo n m i - 1) 0 + ((i + 1) * n - cHi n m i * m) * l.getD (cHi n m i) 0 ∧
    i * n ≤ cLo n m i * m ∧ cHi n m i * m ≤ (i + 1) * n ∧ cLo n m i * m - i * n < m ∧ (i + 1) * n - cHi n m i * m < m ∧ cHi n m i ≤ n ∧ (cHi n m i - cLo n m i) * m + (cLo n m i * m - i * n) + ((i + 1) * n - cHi n m i * m) = n := by
  have hb : cLo n m i * m ≤ i * n + m - 1 ∧ i * n ≤ cLo n m i * m := by
    have h1 := Nat.div_add_mod (i * n + m - 1) m
    have h2 := Nat.mod_lt (i * n + m - 1) (show 0 < m by omega)
    unfold cLo; rw [Nat.mul_comm ((i * n + m - 1) / m)]; omega
  have hc : cHi n m i * m ≤ (i + 1) * n ∧ (i + 1) * n < cHi n m i * m + m := by
    have h1 := Nat.div_add_mod ((i + 1) * n) m
    have h2 := Nat.mod_lt ((i + 1) * n) (show 0 < m by omega)
    unfold cHi; rw [Nat.mul_comm ((i + 1) * n / m)]; omega
  generalize cLo n m i = lo at *
  generalize cHi n m i = hi' at *
  have hin : (i + 1) * n = i * n + n := by rw [Nat.add_mul]; omega
  have hhn : hi' ≤ n := by
    rcases Nat.lt_or_ge n hi' with h | h
    · have a1 : (n + 1) * m ≤ hi' * m := Nat.mul_le_mul_right m h
      have a2 : (i + 1) * n ≤ m * n := Nat.mul_le_mul_right n (by omega)
      rw [Nat.add_mul, Nat.mul_comm n m] at a1
      omega
    · exact h
  have hlh : (hi' - lo) * m + lo * m = hi' * m := by rw [← Nat.add_mul]; congr 1; omega
  have e1 : inte l m ((i + 1) * n) = m * preS l hi' + ((i + 1) * n - hi' * m) * l.getD hi' 0 := inte_at l m hi' _ (by omega) hc.1 (by have : (hi' + 1) * m = hi' * m + m := (by rw [Nat.add_mul]; omega); omega)
  have e2 : inte l m (i * n) + (lo * m - i * n) * l.getD (lo - 1) 0 = m * preS l lo := by
    rcases Nat.eq_zero_or_pos (lo * m - i * n) with h | h
    · have : i * n = lo * m := by omega
      rw [h, this, inte_at l m lo _ (by omega) (Nat.le_refl _) (by rw [Nat.add_mul]; omega)]; simp
    · obtain ⟨x, rfl⟩ : ∃ x, lo = x + 1 := ⟨lo - 1, by
        rcases Nat.eq_zero_or_pos lo with h0 | h0
        · subst h0; simp at h
        · omega⟩
      have hx : (x + 1) * m = x * m + m := by rw [Nat.add_mul]; omega
      rw [inte_at l m x (i * n) (by omega) (by omega) (by omega), preS_succ, show x + 1 - 1 = x from rfl, Nat.add_assoc, ← Nat.add_mul, Nat.mul_add]
      congr 2; omega
  have e3 := sumB_preS l lo (hi' - lo)
  rw [show lo + (hi' - lo) = hi' from by omega] at e3
  refine ⟨?_, hb.2, hc.1, by omega, by omega, hhn, by omega⟩
  unfold takes
  rw [e1, ← e3, Nat.mul_add]
  omega

/-- What a sample takes that lies inside one byte. -/
theorem takes_inside (l : List Nat) (n m i : Nat) (hn : 1 ≤ n) (hm : 1 ≤ m) (hi : i < m) (hlt : cHi n m i < cLo n m i) :
    takes l n m i = n * l.getD (cLo n m i - 1) 0 ∧ 1 ≤ cLo n m i ∧ cLo n m i ≤ n := by
  have hb : cLo n m i * m ≤ i * n + m - 1 ∧ i * n ≤ cLo n m i * m := by
    have h1 := Nat.div_add_mod (i * n + m - 1) m
    have h2 := Nat.mod_lt (i * n + m - 1) (show 0 < m by omega)
    unfold cLo; rw [Nat.mul_comm ((i * n + m - 1) / m)]; omega
  have hc : cHi n m i * m ≤ (i + 1) * n ∧ (i + 1) * n < cHi n m i * m + m := by
    have h1 := Nat.div_add_mod ((i + 1) * n) m
    have h2 := Nat.mod_lt ((i + 1) * n) (show 0 < m by omega)
    unfold cHi; rw [Nat.mul_comm ((i + 1) * n / m)]; omega
  generalize cLo n m i = lo at *
  generalize cHi n m i = hi' at *
  have hin : (i + 1) * n = i * n + n := by rw [Nat.add_mul]; omega
  obtain ⟨x, rfl⟩ : ∃ x, lo = x + 1 := ⟨lo - 1, by omega⟩
  have hx : (x + 1) * m = x * m + m := by rw [Nat.add_mul]; omega
  have hhx : hi' * m ≤ x * m := Nat.mul_le_mul_right m (by omega)
  have hst := inte_step l m x (i * n) ((i + 1) * n) (by omega) (by omega) (by omega) (by omega)
  refine ⟨?_, by omega, ?_⟩
  · unfold takes
    rw [show x + 1 - 1 = x from rfl, Nat.mul_comm n]
    rw [show (i + 1) * n - i * n = n from by omega] at hst
    omega
  · rcases Nat.lt_or_ge n (x + 1) with h | h
    · have a1 : n * m ≤ x * m := Nat.mul_le_mul_right m (by omega)
      have a2 : i * n < m * n := Nat.mul_lt_mul_of_pos_right hi (by omega)
      rw [Nat.mul_comm m n] at a2
      omega
    · exact h
end Go.Proofs.Qxb6602560a
