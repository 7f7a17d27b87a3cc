import Derived.Test.Qxb6602030aNext
namespace Go.Proofs.Qxb6602030a
open Go.ChangeShapes Go.WideShapes Go.ChangeAt Go.RowKit
set_option linter.unusedVariables false

/-- m bytes of lw stand in l from p on, and no more. -/
def Stop (l lw : List Int) (p m : Nat) : Prop :=
  (∀ i, i < m → i < lw.length ∧ p + i < l.length ∧ l.getD (p + i) 0 = lw.getD i 0) ∧ ¬ (m < lw.length ∧ p + m < l.length ∧ l.getD (p + m) 0 = lw.getD m 0)

theorem stop_from (l lw : List Int) (p : Nat) : ∀ (g m : Nat), lw.length ≤ m + g → (∀ i, i < m → i < lw.length ∧ p + i < l.length ∧ l.getD (p + i) 0 = lw.getD i 0) → ∃ m, Stop l lw p m
  | 0, m, h, hm => ⟨m, hm, by omega⟩
  | g + 1, m, h, hm => by
    by_cases hc : m < lw.length ∧ p + m < l.length ∧ l.getD (p + m) 0 = lw.getD m 0
    · refine stop_from l lw p g (m + 1) (by omega) fun i hi => ?_
      by_cases e : i = m
      · subst e; exact hc
      · exact hm i (by omega)
    · exact ⟨m, hm, hc⟩

theorem stop_ex (l lw : List Int) (p : Nat) : ∃ m, Stop l lw p m := stop_from l lw p lw.length 0 (by omega) (fun i hi => by omega)

set_option maxHeartbeats 400000 in
theorem zz19_true (a0 a3 : Option Addr) (n0 c0 n3 c3 : Nat) (p d : Int) (w : World) (h : n0 + n3 ≤ 1048576) :
    Calls Try.prog 19 #[.slice a0 n0 c0, .int .i64 p, .int .i64 d, .slice a3 n3 c3] w fun e w' => e = .returned (.bool true) ∧ w = w' := by
  go_enter Try.func19, Try.ntmps19
  go_wp2
  go_ret
  exact ⟨rfl, rfl⟩

set_option maxHeartbeats 400000 in
theorem zz19_false (a0 a3 : Option Addr) (n0 c0 n3 c3 : Nat) (p d : Int) (w : World) (h : 1048576 < n0 + n3) (h0 : n0 ≤ maxLen) (h3 : n3 ≤ maxLen) :
    Calls Try.prog 19 #[.slice a0 n0 c0, .int .i64 p, .int .i64 d, .slice a3 n3 c3] w fun e w' => e = .returned (.bool false) ∧ w = w' := by
  unfold maxLen at h0 h3
  go_enter Try.func19, Try.ntmps19
  go_wp2
  all_goals first | (exfalso; omega) | (go_ret; exact ⟨rfl, rfl⟩)

set_option maxHeartbeats 400000 in
theorem script_big (a0 a3 : Option Addr) (n0 c0 n3 c3 : Nat) (p d : Int) (w : World) (h : 1048576 < n0 + n3) (h0 : n0 ≤ maxLen) (h3 : n3 ≤ maxLen) :
    Calls Try.prog 7 #[.slice a0 n0 c0, .int .i64 p, .int .i64 d, .slice a3 n3 c3] w fun e w' => e = .returned (.bool true) ∧ Below w.heap.size w w' := by
  go_enter Try.func7, Try.ntmps7
  go_wp2_with (go_at_call 19; refine (zz19_false _ _ _ _ _ _ _ _ _ h h0 h3).mono ?_; rintro e w' ⟨rfl, rfl⟩)
  go_ret
  exact ⟨rfl, Below.refl _ _⟩

set_option maxHeartbeats 400000 in
theorem script_neg (a0 a3 : Option Addr) (n0 c0 n3 c3 : Nat) (p d : Int) (w : World) (h : n0 + n3 ≤ 1048576) (hp : p < 0) :
    Calls Try.prog 7 #[.slice a0 n0 c0, .int .i64 p, .int .i64 d, .slice a3 n3 c3] w fun e w' => e = .returned (.bool true) ∧ Below w.heap.size w w' := by
  go_enter Try.func7, Try.ntmps7
  go_wp2_with (go_at_call 19; refine (zz19_true _ _ _ _ _ _ _ _ _ h).mono ?_; rintro e w' ⟨rfl, rfl⟩)
  go_ret
  exact ⟨rfl, Below.refl _ _⟩

set_option maxRecDepth 100000 in
set_option maxRecDepth 100000 in
set_option maxRecDepth 100000 in
set_option maxHeartbeats 1000000 in
theorem script_full (a0 a3 : Option Addr) (c0 c3 : Nat) (l lw : List Int) (p m : Nat) (d : Int) (w : World) (hp : p ≤ 9223372036854775807) (h : l.length + lw.length ≤ 1048576)
    (h0 : Row w a0 l) (h3 : Row w a3 lw) (hpl : p < l.length) (hm : ∀ i, i < m → i < lw.length ∧ p + i < l.length ∧ l.getD (p + i) 0 = lw.getD i 0) (hk2 : lw.length ≤ m) :
    Calls Try.prog 7 #[.slice a0 l.length c0, .int .i64 p, .int .i64 d, .slice a3 lw.length c3] w fun e w' => e = .returned (.bool true) ∧ Below w.heap.size w w' := by
  go_enter Try.func7, Try.ntmps7
  go_wp2_with (go_at_call 19; refine (zz19_true _ _ _ _ _ _ _ _ _ h).mono ?_; rintro e w' ⟨rfl, rfl⟩)
  refine (clone_any a0 c0 l _ (by omega) h0).mono ?_
  rintro e w1 ⟨a1, c1, rfl, hr1, hb1⟩
  go_wp2_with fail
  refine (clone_any a3 c3 lw _ (by omega) (h3.later hb1)).mono ?_
  rintro e w2 ⟨a2, c2, rfl, hr2, hb2⟩
  go_wp2_with fail
  refine (clone_any a1 c1 l _ (by omega) (hr1.later hb2)).mono ?_
  rintro e w3 ⟨a4, c4, rfl, hr3, hb3⟩
  have R1 : Row w3 a1 l := (hr1.later hb2).later hb3
  have R2 : Row w3 a2 lw := hr2.later hb3
  have B3 : Below w.heap.size w w3 := (hb1.trans (hb2.mono hb1.size)).trans (hb3.mono (Nat.le_trans hb1.size hb2.size))
  clear hr1 hr2 hb1 hb2 hb3 h0 h3
  go_wp2
  go_loopw [10] (fun mv wr => ∃ k n : Nat, k ≤ m ∧ mv = .int .i64 k ∧ wr = w3.drewN n) (fun mv _ => m - (intOf mv).toNat)
  case atStart => exact ⟨0, 0, Nat.zero_le _, rfl, rfl⟩
  case round =>
    obtain ⟨k, n, hk, rfl, rfl⟩ := hrel
    by_cases hlt : k < m
    · obtain ⟨q1, q2, q3⟩ := hm k hlt
      obtain ⟨b1, o1, rfl, hb1, hc1⟩ := hr3.2.resolve_left (by intro e; subst e; simp at hpl)
      obtain ⟨b2, o2, rfl, hb2, hc2⟩ := R2.2.resolve_left (by intro e; subst e; simp at q1)
      obtain ⟨z, hz⟩ : ∃ z, z = lw.getD k 0 := ⟨_, rfl⟩
      have g1 : w3.cell? ⟨b1, o1 + (p + k), none⟩ = some (.int .u8 z) := by rw [hz, ← q3]; exact hc1 (p + k) q2
      have g2 : w3.cell? ⟨b2, o2 + k, none⟩ = some (.int .u8 z) := by rw [hz]; exact hc2 k q1
      have he : (z == z) = true := by simp
      clear hz q3 hc1 hc2
      have t1 : (k : Int) < (lw.length : Int) := by omega
      have t2 : (p : Int) + (k : Int) < (l.length : Int) := by omega
      go_wp2
      go_quiet (fail)
      go_wp2
      go_roundw
      case rel => exact ⟨k + 1, _, by omega, by go_num, rfl⟩
      case measure => simp [intOf]; omega
    · have hke : k = m := by omega
      subst hke
      have hd : decide ((k : Int) < (lw.length : Int)) = false := decide_eq_false (by omega)
      have hd2 : decide (k < lw.length) = false := decide_eq_false (by omega)
      go_wp2
      go_quiet (fail)
      go_wp2
      go_loopw [11, 12, 13, 14, 15, 16, 17, 18] (fun cur pv dv kv s15 s16 s17 s18 wr => ∃ j : Nat, j ≤ k ∧ cur = .slice a1 l.length c1 ∧ pv = .int .i64 (p + j : Nat) ∧ dv = .int .i64 d ∧ kv = .int .i64 j ∧ Below w3.heap.size w3 wr) (fun _ _ _ kv _ _ _ _ _ => k - (intOf kv).toNat)
      case atStart => exact ⟨0, Nat.zero_le _, rfl, rfl, rfl, rfl, bdrew (bdrew (Below.refl _ _) _) _⟩
      case round =>
        obtain ⟨j, hj, rfl, rfl, rfl, rfl, hB⟩ := hrel
        by_cases hlt : j < k
        · obtain ⟨q1, q2, q3⟩ := hm j hlt
          obtain ⟨b5, o5, rfl, hb5, hc5⟩ := R1.2.resolve_left (by intro e; subst e; simp at hpl)
          obtain ⟨b6, o6, rfl, hb6, hc6⟩ := R2.2.resolve_left (by intro e; subst e; simp at q1)
          obtain ⟨x, hx⟩ : ∃ x, x = lw.getD j 0 := ⟨_, rfl⟩
          have f1 : wr.cell? ⟨b5, o5 + (p + j), none⟩ = some (.int .u8 x) := by rw [hx, ← q3]; exact (hB.cell (p := ⟨b5, o5 + (p + j), none⟩) hb5).trans (hc5 (p + j) q2)
          have f2 : wr.cell? ⟨b6, o6 + j, none⟩ = some (.int .u8 x) := by rw [hx]; exact (hB.cell (p := ⟨b6, o6 + j, none⟩) hb6).trans (hc6 j q1)
          have t3 : (j : Int) < (lw.length : Int) := by omega
          have hbs := hB.size
          clear hx q3 hc5 hc6
          go_wp2_with fail
          refine (zznext_hit' b5 o5 l.length c1 (p + j) _ d x wr (by omega) q2 (by omega) (by omega) f1).mono ?_
          rintro e w4 ⟨rfl, hB4⟩
          have HB : Below w3.heap.size w3 w4 := hB.trans (hB4.mono hbs)
          clear hB4 f1 f2
          go_wp2
          go_roundw
          case rel => exact ⟨j + 1, by omega, rfl, by go_num, rfl, by go_num, HB⟩
          case measure => simp [intOf]; omega
        · have hje : j = k := by omega
          subst hje
          have hjb : j ≤ lw.length := by
            rcases Nat.lt_or_ge lw.length j with hh | hh
            · have := hm lw.length hh; omega
            · exact hh
          have hbs := hB.size
          have RA := R1.later hB
          have RB := hr3.later hB
          clear hd hd2 hm hlt
          go_wp2_with (go_at_call 14; refine (same_any a1 a4 c1 c4 l wr (by omega) RA RB).mono ?_; rintro e w4 ⟨rfl, n4, rfl⟩)
          go_ret
          exact ⟨rfl, bdrew (B3.trans (hB.mono B3.size)) _⟩

set_option maxRecDepth 100000 in
set_option maxHeartbeats 1000000 in
theorem script_past (a0 a3 : Option Addr) (c0 c3 : Nat) (l lw : List Int) (p m : Nat) (d : Int) (w : World) (hp : p ≤ 9223372036854775807) (h : l.length + lw.length ≤ 1048576)
    (h0 : Row w a0 l) (h3 : Row w a3 lw) (hpl : p < l.length) (hm : ∀ i, i < m → i < lw.length ∧ p + i < l.length ∧ l.getD (p + i) 0 = lw.getD i 0) (hk2 : m < lw.length) (hpast : l.length ≤ p + m) :
    Calls Try.prog 7 #[.slice a0 l.length c0, .int .i64 p, .int .i64 d, .slice a3 lw.length c3] w fun e w' => e = .returned (.bool true) ∧ Below w.heap.size w w' := by
  go_enter Try.func7, Try.ntmps7
  go_wp2_with (go_at_call 19; refine (zz19_true _ _ _ _ _ _ _ _ _ h).mono ?_; rintro e w' ⟨rfl, rfl⟩)
  refine (clone_any a0 c0 l _ (by omega) h0).mono ?_
  rintro e w1 ⟨a1, c1, rfl, hr1, hb1⟩
  go_wp2_with fail
  refine (clone_any a3 c3 lw _ (by omega) (h3.later hb1)).mono ?_
  rintro e w2 ⟨a2, c2, rfl, hr2, hb2⟩
  go_wp2_with fail
  refine (clone_any a1 c1 l _ (by omega) (hr1.later hb2)).mono ?_
  rintro e w3 ⟨a4, c4, rfl, hr3, hb3⟩
  have R1 : Row w3 a1 l := (hr1.later hb2).later hb3
  have R2 : Row w3 a2 lw := hr2.later hb3
  have B3 : Below w.heap.size w w3 := (hb1.trans (hb2.mono hb1.size)).trans (hb3.mono (Nat.le_trans hb1.size hb2.size))
  clear hr1 hr2 hb1 hb2 hb3 h0 h3
  go_wp2
  go_loopw [10] (fun mv wr => ∃ k n : Nat, k ≤ m ∧ mv = .int .i64 k ∧ wr = w3.drewN n) (fun mv _ => m - (intOf mv).toNat)
  case atStart => exact ⟨0, 0, Nat.zero_le _, rfl, rfl⟩
  case round =>
    obtain ⟨k, n, hk, rfl, rfl⟩ := hrel
    by_cases hlt : k < m
    · obtain ⟨q1, q2, q3⟩ := hm k hlt
      obtain ⟨b1, o1, rfl, hb1, hc1⟩ := hr3.2.resolve_left (by intro e; subst e; simp at hpl)
      obtain ⟨b2, o2, rfl, hb2, hc2⟩ := R2.2.resolve_left (by intro e; subst e; simp at q1)
      obtain ⟨z, hz⟩ : ∃ z, z = lw.getD k 0 := ⟨_, rfl⟩
      have g1 : w3.cell? ⟨b1, o1 + (p + k), none⟩ = some (.int .u8 z) := by rw [hz, ← q3]; exact hc1 (p + k) q2
      have g2 : w3.cell? ⟨b2, o2 + k, none⟩ = some (.int .u8 z) := by rw [hz]; exact hc2 k q1
      have he : (z == z) = true := by simp
      clear hz q3 hc1 hc2
      have t1 : (k : Int) < (lw.length : Int) := by omega
      have t2 : (p : Int) + (k : Int) < (l.length : Int) := by omega
      go_wp2
      go_quiet (fail)
      go_wp2
      go_roundw
      case rel => exact ⟨k + 1, _, by omega, by go_num, rfl⟩
      case measure => simp [intOf]; omega
    · have hke : k = m := by omega
      subst hke
      have t1 : (k : Int) < (lw.length : Int) := by omega
      have hd : decide ((p : Int) + (k : Int) < (l.length : Int)) = false := decide_eq_false (by omega)
      have hd2 : decide (p + k < l.length) = false := decide_eq_false (by omega)
      go_wp2
      go_quiet (fail)
      go_wp2
      go_loopw [11, 12, 13, 14, 15, 16, 17, 18] (fun cur pv dv kv s15 s16 s17 s18 wr => ∃ j : Nat, j ≤ k ∧ cur = .slice a1 l.length c1 ∧ pv = .int .i64 (p + j : Nat) ∧ dv = .int .i64 d ∧ kv = .int .i64 j ∧ Below w3.heap.size w3 wr) (fun _ _ _ kv _ _ _ _ _ => k - (intOf kv).toNat)
      case atStart => exact ⟨0, Nat.zero_le _, rfl, rfl, rfl, rfl, bdrew (bdrew (Below.refl _ _) _) _⟩
      case round =>
        obtain ⟨j, hj, rfl, rfl, rfl, rfl, hB⟩ := hrel
        by_cases hlt : j < k
        · obtain ⟨q1, q2, q3⟩ := hm j hlt
          obtain ⟨b5, o5, rfl, hb5, hc5⟩ := R1.2.resolve_left (by intro e; subst e; simp at hpl)
          obtain ⟨b6, o6, rfl, hb6, hc6⟩ := R2.2.resolve_left (by intro e; subst e; simp at q1)
          obtain ⟨x, hx⟩ : ∃ x, x = lw.getD j 0 := ⟨_, rfl⟩
          have f1 : wr.cell? ⟨b5, o5 + (p + j), none⟩ = some (.int .u8 x) := by rw [hx, ← q3]; exact (hB.cell (p := ⟨b5, o5 + (p + j), none⟩) hb5).trans (hc5 (p + j) q2)
          have f2 : wr.cell? ⟨b6, o6 + j, none⟩ = some (.int .u8 x) := by rw [hx]; exact (hB.cell (p := ⟨b6, o6 + j, none⟩) hb6).trans (hc6 j q1)
          have t3 : (j : Int) < (lw.length : Int) := by omega
          have hbs := hB.size
          clear hx q3 hc5 hc6
          go_wp2_with fail
          refine (zznext_hit' b5 o5 l.length c1 (p + j) _ d x wr (by omega) q2 (by omega) (by omega) f1).mono ?_
          rintro e w4 ⟨rfl, hB4⟩
          have HB : Below w3.heap.size w3 w4 := hB.trans (hB4.mono hbs)
          clear hB4 f1 f2
          go_wp2
          go_roundw
          case rel => exact ⟨j + 1, by omega, rfl, by go_num, rfl, by go_num, HB⟩
          case measure => simp [intOf]; omega
        · have hje : j = k := by omega
          subst hje
          obtain ⟨b6, o6, rfl, hb6, hc6⟩ := R2.2.resolve_left (by intro e; subst e; simp at hk2)
          have f2 : wr.cell? ⟨b6, o6 + j, none⟩ = some (.int .u8 (lw.getD j 0)) := (hB.cell (p := ⟨b6, o6 + j, none⟩) hb6).trans (hc6 j hk2)
          generalize lw.getD j 0 = x at f2
          have t3 : ((j : Nat) : Int) < (lw.length : Int) := by omega
          have hbs := hB.size
          have RA := R1.later hB
          have RB := hr3.later hB
          clear hc6
          go_wp2_with fail
          refine (zznext_past a1 l.length c1 _ d x wr (by omega)).mono ?_
          rintro e w4 ⟨rfl, hB4⟩
          have RA4 := RA.later hB4
          have RB4 := RB.later hB4
          have HB : Below w.heap.size w w4 := B3.trans ((hB.trans (hB4.mono hbs)).mono B3.size)
          clear hB4 f2 RA RB
          go_wp2_with (go_at_call 14; refine (same_any a1 a4 c1 c4 l w4 (by omega) RA4 RB4).mono ?_; rintro e w5 ⟨rfl, n4, rfl⟩)
          go_ret
          exact ⟨rfl, bdrew HB _⟩

set_option maxRecDepth 100000 in
set_option maxHeartbeats 1000000 in
theorem script_other (a0 a3 : Option Addr) (c0 c3 : Nat) (l lw : List Int) (p m : Nat) (d : Int) (w : World) (hp : p ≤ 9223372036854775807) (h : l.length + lw.length ≤ 1048576)
    (h0 : Row w a0 l) (h3 : Row w a3 lw) (hpl : p < l.length) (hm : ∀ i, i < m → i < lw.length ∧ p + i < l.length ∧ l.getD (p + i) 0 = lw.getD i 0) (hk2 : m < lw.length) (hk3 : p + m < l.length) (hne : l.getD (p + m) 0 ≠ lw.getD m 0) :
    Calls Try.prog 7 #[.slice a0 l.length c0, .int .i64 p, .int .i64 d, .slice a3 lw.length c3] w fun e w' => e = .returned (.bool true) ∧ Below w.heap.size w w' := by
  go_enter Try.func7, Try.ntmps7
  go_wp2_with (go_at_call 19; refine (zz19_true _ _ _ _ _ _ _ _ _ h).mono ?_; rintro e w' ⟨rfl, rfl⟩)
  refine (clone_any a0 c0 l _ (by omega) h0).mono ?_
  rintro e w1 ⟨a1, c1, rfl, hr1, hb1⟩
  go_wp2_with fail
  refine (clone_any a3 c3 lw _ (by omega) (h3.later hb1)).mono ?_
  rintro e w2 ⟨a2, c2, rfl, hr2, hb2⟩
  go_wp2_with fail
  refine (clone_any a1 c1 l _ (by omega) (hr1.later hb2)).mono ?_
  rintro e w3 ⟨a4, c4, rfl, hr3, hb3⟩
  have R1 : Row w3 a1 l := (hr1.later hb2).later hb3
  have R2 : Row w3 a2 lw := hr2.later hb3
  have B3 : Below w.heap.size w w3 := (hb1.trans (hb2.mono hb1.size)).trans (hb3.mono (Nat.le_trans hb1.size hb2.size))
  clear hr1 hr2 hb1 hb2 hb3 h0 h3
  go_wp2
  go_loopw [10] (fun mv wr => ∃ k n : Nat, k ≤ m ∧ mv = .int .i64 k ∧ wr = w3.drewN n) (fun mv _ => m - (intOf mv).toNat)
  case atStart => exact ⟨0, 0, Nat.zero_le _, rfl, rfl⟩
  case round =>
    obtain ⟨k, n, hk, rfl, rfl⟩ := hrel
    by_cases hlt : k < m
    · obtain ⟨q1, q2, q3⟩ := hm k hlt
      obtain ⟨b1, o1, rfl, hb1, hc1⟩ := hr3.2.resolve_left (by intro e; subst e; simp at hpl)
      obtain ⟨b2, o2, rfl, hb2, hc2⟩ := R2.2.resolve_left (by intro e; subst e; simp at q1)
      obtain ⟨z, hz⟩ : ∃ z, z = lw.getD k 0 := ⟨_, rfl⟩
      have g1 : w3.cell? ⟨b1, o1 + (p + k), none⟩ = some (.int .u8 z) := by rw [hz, ← q3]; exact hc1 (p + k) q2
      have g2 : w3.cell? ⟨b2, o2 + k, none⟩ = some (.int .u8 z) := by rw [hz]; exact hc2 k q1
      have he : (z == z) = true := by simp
      clear hz q3 hc1 hc2
      have t1 : (k : Int) < (lw.length : Int) := by omega
      have t2 : (p : Int) + (k : Int) < (l.length : Int) := by omega
      go_wp2
      go_quiet (fail)
      go_wp2
      go_roundw
      case rel => exact ⟨k + 1, _, by omega, by go_num, rfl⟩
      case measure => simp [intOf]; omega
    · have hke : k = m := by omega
      subst hke
      obtain ⟨b1, o1, rfl, hb1, hc1⟩ := hr3.2.resolve_left (by intro e; subst e; simp at hpl)
      obtain ⟨b2, o2, rfl, hb2, hc2⟩ := R2.2.resolve_left (by intro e; subst e; simp at hk2)
      obtain ⟨z, hz⟩ : ∃ z, z = lw.getD k 0 := ⟨_, rfl⟩
      obtain ⟨y, hy⟩ : ∃ y, y = l.getD (p + k) 0 := ⟨_, rfl⟩
      have g1 : w3.cell? ⟨b1, o1 + (p + k), none⟩ = some (.int .u8 y) := by rw [hy]; exact hc1 (p + k) hk3
      have g2 : w3.cell? ⟨b2, o2 + k, none⟩ = some (.int .u8 z) := by rw [hz]; exact hc2 k hk2
      have hne2 : y ≠ z := by rw [hy, hz]; exact hne
      have he : (y == z) = false := beq_eq_false_iff_ne.2 hne2
      have HY : Hid (y = l.getD (p + k) 0) := hy
      clear hz hy hc1 hc2
      have t1 : (k : Int) < (lw.length : Int) := by omega
      have t2 : (p : Int) + (k : Int) < (l.length : Int) := by omega
      go_wp2
      go_quiet (fail)
      go_wp2
      go_loopw [11, 12, 13, 14, 15, 16, 17, 18] (fun cur pv dv kv s15 s16 s17 s18 wr => ∃ j : Nat, j ≤ k ∧ cur = .slice a1 l.length c1 ∧ pv = .int .i64 (p + j : Nat) ∧ dv = .int .i64 d ∧ kv = .int .i64 j ∧ Below w3.heap.size w3 wr) (fun _ _ _ kv _ _ _ _ _ => k - (intOf kv).toNat)
      case atStart => exact ⟨0, Nat.zero_le _, rfl, rfl, rfl, rfl, bdrew (bdrew (Below.refl _ _) _) _⟩
      case round =>
        obtain ⟨j, hj, rfl, rfl, rfl, rfl, hB⟩ := hrel
        by_cases hlt : j < k
        · obtain ⟨q1, q2, q3⟩ := hm j hlt
          obtain ⟨b5, o5, rfl, hb5, hc5⟩ := R1.2.resolve_left (by intro e; subst e; simp at hpl)
          have hc6 : ∀ i, i < lw.length → w3.cell? ⟨b2, o2 + i, none⟩ = some (.int .u8 (lw.getD i 0)) := by
            rcases R2.2 with e | ⟨b, off, e, _, hc⟩
            · intro i hi; subst e; simp at hi
            · simp only [Option.some.injEq, Addr.mk.injEq, and_true] at e; obtain ⟨rfl, rfl⟩ := e; exact hc
          have hb6 := hb2
          clear g1 g2
          obtain ⟨x, hx⟩ : ∃ x, x = lw.getD j 0 := ⟨_, rfl⟩
          have f1 : wr.cell? ⟨b5, o5 + (p + j), none⟩ = some (.int .u8 x) := by rw [hx, ← q3]; exact (hB.cell (p := ⟨b5, o5 + (p + j), none⟩) hb5).trans (hc5 (p + j) q2)
          have f2 : wr.cell? ⟨b2, o2 + j, none⟩ = some (.int .u8 x) := by rw [hx]; exact (hB.cell (p := ⟨b2, o2 + j, none⟩) hb6).trans (hc6 j q1)
          have t3 : (j : Int) < (lw.length : Int) := by omega
          have hbs := hB.size
          clear hx q3 hc5 hc6
          go_wp2_with fail
          refine (zznext_hit' b5 o5 l.length c1 (p + j) _ d x wr (by omega) q2 (by omega) (by omega) f1).mono ?_
          rintro e w4 ⟨rfl, hB4⟩
          have HB : Below w3.heap.size w3 w4 := hB.trans (hB4.mono hbs)
          clear hB4 f1 f2
          go_wp2
          go_roundw
          case rel => exact ⟨j + 1, by omega, rfl, by go_num, rfl, by go_num, HB⟩
          case measure => simp [intOf]; omega
        · have hje : j = k := by omega
          subst hje
          obtain ⟨b5, o5, rfl, hb5, hc5⟩ := R1.2.resolve_left (by intro e; subst e; simp at hpl)
          have f1 : wr.cell? ⟨b5, o5 + (p + j), none⟩ = some (.int .u8 y) := by rw [HY.out]; exact (hB.cell (p := ⟨b5, o5 + (p + j), none⟩) hb5).trans (hc5 (p + j) hk3)
          have f2 : wr.cell? ⟨b2, o2 + j, none⟩ = some (.int .u8 z) := (hB.cell (p := ⟨b2, o2 + j, none⟩) hb2).trans g2
          have t3 : (j : Int) < (lw.length : Int) := by omega
          have hbs := hB.size
          have RA := R1.later hB
          have RB := hr3.later hB
          clear hc5 g1 g2
          go_wp2_with fail
          refine (zznext_other' b5 o5 l.length c1 (p + j) _ d y z wr (by omega) hk3 hne2 (by omega) f1).mono ?_
          rintro e w4 ⟨rfl, hB4⟩
          have RA4 := RA.later hB4
          have RB4 := RB.later hB4
          have HB : Below w.heap.size w w4 := B3.trans ((hB.trans (hB4.mono hbs)).mono B3.size)
          clear hB4 f2 RA RB
          go_wp2_with (go_at_call 14; refine (same_any (some ⟨b5, o5, none⟩) (some ⟨b1, o1, none⟩) c1 c4 l w4 (by omega) RA4 RB4).mono ?_; rintro e w5 ⟨rfl, n4, rfl⟩)
          go_ret
          exact ⟨rfl, bdrew HB _⟩

set_option maxRecDepth 100000 in
set_option maxHeartbeats 1000000 in
theorem script_full_out (a0 a3 : Option Addr) (c0 c3 : Nat) (l lw : List Int) (p : Nat) (d : Int) (w : World) (hp : p ≤ 9223372036854775807) (h : l.length + lw.length ≤ 1048576)
    (h0 : Row w a0 l) (h3 : Row w a3 lw) (hpl : l.length ≤ p) (hk2 : lw.length ≤ 0) :
    Calls Try.prog 7 #[.slice a0 l.length c0, .int .i64 p, .int .i64 d, .slice a3 lw.length c3] w fun e w' => e = .returned (.bool true) ∧ Below w.heap.size w w' := by
  go_enter Try.func7, Try.ntmps7
  go_wp2_with (go_at_call 19; refine (zz19_true _ _ _ _ _ _ _ _ _ h).mono ?_; rintro e w' ⟨rfl, rfl⟩)
  refine (clone_any a0 c0 l _ (by omega) h0).mono ?_
  rintro e w1 ⟨a1, c1, rfl, hr1, hb1⟩
  go_wp2_with fail
  refine (clone_any a3 c3 lw _ (by omega) (h3.later hb1)).mono ?_
  rintro e w2 ⟨a2, c2, rfl, hr2, hb2⟩
  go_wp2_with fail
  refine (clone_any a1 c1 l _ (by omega) (hr1.later hb2)).mono ?_
  rintro e w3 ⟨a4, c4, rfl, hr3, hb3⟩
  have R1 : Row w3 a1 l := (hr1.later hb2).later hb3
  have R2 : Row w3 a2 lw := hr2.later hb3
  have B3 : Below w.heap.size w w3 := (hb1.trans (hb2.mono hb1.size)).trans (hb3.mono (Nat.le_trans hb1.size hb2.size))
  clear hr1 hr2 hb1 hb2 hb3 h0 h3
  go_wp2
  go_loopw [11, 12, 13, 14, 15, 16, 17, 18] (fun cur pv dv kv s15 s16 s17 s18 wr => ∃ j : Nat, j ≤ 0 ∧ cur = .slice a1 l.length c1 ∧ pv = .int .i64 (p + j : Nat) ∧ dv = .int .i64 d ∧ kv = .int .i64 j ∧ Below w3.heap.size w3 wr) (fun _ _ _ kv _ _ _ _ _ => 0 - (intOf kv).toNat)
  case atStart => exact ⟨0, Nat.zero_le _, rfl, rfl, rfl, rfl, Below.refl _ _⟩
  case round =>
    obtain ⟨j, hj, rfl, rfl, rfl, rfl, hB⟩ := hrel
    · obtain rfl : j = 0 := by omega
      have hbs := hB.size
      have RA := R1.later hB
      have RB := hr3.later hB
      go_wp2_with (go_at_call 14; refine (same_any a1 a4 c1 c4 l wr (by omega) RA RB).mono ?_; rintro e w4 ⟨rfl, n4, rfl⟩)
      go_ret
      exact ⟨rfl, bdrew (B3.trans (hB.mono B3.size)) _⟩

set_option maxRecDepth 100000 in
set_option maxHeartbeats 1000000 in
theorem script_past_out (a0 a3 : Option Addr) (c0 c3 : Nat) (l lw : List Int) (p : Nat) (d : Int) (w : World) (hp : p ≤ 9223372036854775807) (h : l.length + lw.length ≤ 1048576)
    (h0 : Row w a0 l) (h3 : Row w a3 lw) (hpl : l.length ≤ p) (hk2 : 0 < lw.length) :
    Calls Try.prog 7 #[.slice a0 l.length c0, .int .i64 p, .int .i64 d, .slice a3 lw.length c3] w fun e w' => e = .returned (.bool true) ∧ Below w.heap.size w w' := by
  go_enter Try.func7, Try.ntmps7
  go_wp2_with (go_at_call 19; refine (zz19_true _ _ _ _ _ _ _ _ _ h).mono ?_; rintro e w' ⟨rfl, rfl⟩)
  refine (clone_any a0 c0 l _ (by omega) h0).mono ?_
  rintro e w1 ⟨a1, c1, rfl, hr1, hb1⟩
  go_wp2_with fail
  refine (clone_any a3 c3 lw _ (by omega) (h3.later hb1)).mono ?_
  rintro e w2 ⟨a2, c2, rfl, hr2, hb2⟩
  go_wp2_with fail
  refine (clone_any a1 c1 l _ (by omega) (hr1.later hb2)).mono ?_
  rintro e w3 ⟨a4, c4, rfl, hr3, hb3⟩
  have R1 : Row w3 a1 l := (hr1.later hb2).later hb3
  have R2 : Row w3 a2 lw := hr2.later hb3
  have B3 : Below w.heap.size w w3 := (hb1.trans (hb2.mono hb1.size)).trans (hb3.mono (Nat.le_trans hb1.size hb2.size))
  clear hr1 hr2 hb1 hb2 hb3 h0 h3
  go_wp2
  go_loopw [11, 12, 13, 14, 15, 16, 17, 18] (fun cur pv dv kv s15 s16 s17 s18 wr => ∃ j : Nat, j ≤ 0 ∧ cur = .slice a1 l.length c1 ∧ pv = .int .i64 (p + j : Nat) ∧ dv = .int .i64 d ∧ kv = .int .i64 j ∧ Below w3.heap.size w3 wr) (fun _ _ _ kv _ _ _ _ _ => 0 - (intOf kv).toNat)
  case atStart => exact ⟨0, Nat.zero_le _, rfl, rfl, rfl, rfl, Below.refl _ _⟩
  case round =>
    obtain ⟨j, hj, rfl, rfl, rfl, rfl, hB⟩ := hrel
    · obtain rfl : j = 0 := by omega
      obtain ⟨b6, o6, rfl, hb6, hc6⟩ := R2.2.resolve_left (by intro e; subst e; simp at hk2)
      have f2 : wr.cell? ⟨b6, o6, none⟩ = some (.int .u8 (lw.getD 0 0)) := (hB.cell (p := ⟨b6, o6, none⟩) hb6).trans (hc6 0 hk2)
      generalize lw.getD 0 0 = x at f2
      have t3 : ((0 : Nat) : Int) < (lw.length : Int) := by omega
      have hbs := hB.size
      have RA := R1.later hB
      have RB := hr3.later hB
      clear hc6
      go_wp2_with fail
      refine (zznext_past a1 l.length c1 _ d x wr (by omega)).mono ?_
      rintro e w4 ⟨rfl, hB4⟩
      have RA4 := RA.later hB4
      have RB4 := RB.later hB4
      have HB : Below w.heap.size w w4 := B3.trans ((hB.trans (hB4.mono hbs)).mono B3.size)
      clear hB4 f2 RA RB
      go_wp2_with (go_at_call 14; refine (same_any a1 a4 c1 c4 l w4 (by omega) RA4 RB4).mono ?_; rintro e w5 ⟨rfl, n4, rfl⟩)
      go_ret
      exact ⟨rfl, bdrew HB _⟩

end Go.Proofs.Qxb6602030a
