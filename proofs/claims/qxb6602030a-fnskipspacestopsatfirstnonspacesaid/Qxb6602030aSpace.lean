import Derived.Test.Qxb6602030aSkip
namespace Go.Proofs.Qxb6602030a
open Go.ChangeShapes Go.WideShapes Go.ChangeAt Go.RowKit
set_option linter.unusedVariables false

set_option maxHeartbeats 400000 in
/-- ZZSkipSpace: the position moves to the first byte that is no white space. -/
theorem zzskip_any (a : Option Addr) (c p e : Nat) (l : List Int) (d : Int) (w : World) (hl : l.length ≤ 4194304) (hr : Row w a l) (hp : p ≤ 9223372036854775807) (hs : Sk l p e) :
    Calls Try.prog 16 #[.slice a l.length c, .int .i64 p, .int .i64 d] w fun en w' => en = .returned (.tuple #[.slice a l.length c, .int .i64 e, .int .i64 d]) ∧ Below w.heap.size w w' := by
  have hbw : ∀ o, Below w.heap.size w (w.alloc o) := fun o => (Below.refl _ _).alloc (Nat.le_refl _) o
  go_enter Try.func16, Try.ntmps16
  go_wp2_with fail
  refine (skip_any w.heap.size a c p e l (.int .i64 d) _ hl (hr.later (hbw _)) hp ?_ hs ?_).mono ?_
  · intro b off ha hne
    rcases hr.2 with h | ⟨b', off', ha', hlt, _⟩
    · exact absurd h hne
    · rw [ha] at ha'; simp only [Option.some.injEq, Addr.mk.injEq, and_true] at ha'; omega
  · exact ⟨by simp, by simp, by simp, by simp, Below.refl _ _⟩
  rintro en w' ⟨rfl, g0, g1, g2, gf, gb⟩
  have HB : Below w.heap.size w w' := (hbw _).trans gb
  clear gb hbw
  go_wp2
  go_quiet (fail)
  go_wp2
  exact bodyPost_ret (v := .tuple #[.slice a l.length c, .int .i64 e, .int .i64 d]) (by simp [results, Try.results16, go_sem]) rfl ⟨rfl, bdrew HB _⟩

set_option maxHeartbeats 400000 in
theorem zz15_true (a : Option Addr) (n c : Nat) (p d : Int) (w : World) (h : n ≤ 1048576) :
    Calls Try.prog 15 #[.slice a n c, .int .i64 p, .int .i64 d] w fun e w' => e = .returned (.bool true) ∧ w = w' := by
  go_enter Try.func15, Try.ntmps15
  go_wp2
  go_ret
  exact ⟨rfl, rfl⟩
set_option maxHeartbeats 400000 in
theorem zz15_false (a : Option Addr) (n c : Nat) (p d : Int) (w : World) (h : 1048576 < n) (hm : n ≤ maxLen) :
    Calls Try.prog 15 #[.slice a n c, .int .i64 p, .int .i64 d] w fun e w' => e = .returned (.bool false) ∧ w = w' := by
  unfold maxLen at hm
  go_enter Try.func15, Try.ntmps15
  go_wp2
  go_ret
  exact ⟨rfl, rfl⟩
set_option maxHeartbeats 400000 in
theorem zz21_true (a : Option Addr) (n c : Nat) (p d z : Int) (w : World) (h : n ≤ 1048576) :
    Calls Try.prog 21 #[.slice a n c, .int .i64 p, .int .i64 d, .int .u8 z] w fun e w' => e = .returned (.bool true) ∧ w = w' := by
  go_enter Try.func21, Try.ntmps21
  go_wp2
  go_ret
  exact ⟨rfl, rfl⟩
set_option maxHeartbeats 400000 in
theorem zz21_false (a : Option Addr) (n c : Nat) (p d z : Int) (w : World) (h : 1048576 < n) (hm : n ≤ maxLen) :
    Calls Try.prog 21 #[.slice a n c, .int .i64 p, .int .i64 d, .int .u8 z] w fun e w' => e = .returned (.bool false) ∧ w = w' := by
  unfold maxLen at hm
  go_enter Try.func21, Try.ntmps21
  go_wp2
  go_ret
  exact ⟨rfl, rfl⟩

/-! ### FnSkipSpaceStopsAtFirstNonSpace -/
set_option maxHeartbeats 400000 in
theorem stops_big (a : Option Addr) (n c : Nat) (p d : Int) (w : World) (h : 1048576 < n) (hm : n ≤ maxLen) :
    Calls Try.prog 5 #[.slice a n c, .int .i64 p, .int .i64 d] w fun e w' => e = .returned (.bool true) ∧ Below w.heap.size w w' := by
  go_enter Try.func5, Try.ntmps5
  go_wp2_with (go_at_call 15; refine (zz15_false _ _ _ _ _ _ h hm).mono ?_; rintro e w' ⟨rfl, rfl⟩)
  go_ret
  exact ⟨rfl, Below.refl _ _⟩
set_option maxHeartbeats 400000 in
theorem stops_neg (a : Option Addr) (n c : Nat) (p d : Int) (w : World) (h : n ≤ 1048576) (hp : p < 0) :
    Calls Try.prog 5 #[.slice a n c, .int .i64 p, .int .i64 d] w fun e w' => e = .returned (.bool true) ∧ Below w.heap.size w w' := by
  go_enter Try.func5, Try.ntmps5
  go_wp2_with (go_at_call 15; refine (zz15_true _ _ _ _ _ _ h).mono ?_; rintro e w' ⟨rfl, rfl⟩)
  go_ret
  exact ⟨rfl, Below.refl _ _⟩

set_option maxHeartbeats 1000000 in
theorem stops_past (a : Option Addr) (c p : Nat) (l : List Int) (d : Int) (w : World) (h : l.length ≤ 1048576) (hp : p ≤ 9223372036854775807) (hr : Row w a l) (hpl : l.length ≤ p) :
    Calls Try.prog 5 #[.slice a l.length c, .int .i64 p, .int .i64 d] w fun e w' => e = .returned (.bool true) ∧ Below w.heap.size w w' := by
  go_enter Try.func5, Try.ntmps5
  go_wp2_with (go_at_call 15; refine (zz15_true _ _ _ _ _ _ h).mono ?_; rintro e w' ⟨rfl, rfl⟩)
  refine (clone_any a c l _ (by omega) hr).mono ?_
  rintro e w1 ⟨a1, c1, rfl, hr1, hb1⟩
  go_wp2_with fail
  refine (clone_any a1 c1 l _ (by omega) hr1).mono ?_
  rintro e w2 ⟨a2, c2, rfl, hr2, hb2⟩
  go_wp2_with fail
  refine (zzskip_any a1 c1 p p l d _ (by omega) (hr1.later hb2) hp ⟨Nat.le_refl _, fun i h1 h2 => by omega, fun h1 => by omega⟩).mono ?_
  rintro e w3 ⟨rfl, hb3⟩
  go_wp2_with fail
  refine (same_any a1 a2 c1 c2 l _ (by omega) ((hr1.later hb2).later hb3) (hr2.later hb3)).mono ?_
  rintro e w4 ⟨rfl, n4, rfl⟩
  have HB : Below w.heap.size w (w3.drewN n4) := bdrew ((hb1.trans (hb2.mono hb1.size)).trans (hb3.mono (Nat.le_trans hb1.size hb2.size))) _
  clear hr1 hr2 hb1 hb2 hb3 hr
  go_wp2
  go_ret
  exact ⟨rfl, HB⟩

set_option maxHeartbeats 1000000 in
theorem stops_in (a : Option Addr) (c p e : Nat) (l : List Int) (d : Int) (w : World) (h : l.length ≤ 1048576) (hp : p ≤ 9223372036854775807) (hr : Row w a l) (hpl : p < l.length) (hs : Sk l p e) (hel : e ≤ l.length) :
    Calls Try.prog 5 #[.slice a l.length c, .int .i64 p, .int .i64 d] w fun e w' => e = .returned (.bool true) ∧ Below w.heap.size w w' := by
  have hpe := hs.1
  have d1 : decide ((e : Int) < (p : Int)) = false := decide_eq_false (by omega)
  have d2 : decide ((l.length : Int) < (e : Int)) = false := decide_eq_false (by omega)
  have d3 : decide (e < p) = false := decide_eq_false (by omega)
  have d4 : decide (l.length < e) = false := decide_eq_false (by omega)
  have d5 : decide (l.length ≤ p) = false := decide_eq_false (by omega)
  go_enter Try.func5, Try.ntmps5
  go_wp2_with (go_at_call 15; refine (zz15_true _ _ _ _ _ _ h).mono ?_; rintro e w' ⟨rfl, rfl⟩)
  refine (clone_any a c l _ (by omega) hr).mono ?_
  rintro en w1 ⟨a1, c1, rfl, hr1, hb1⟩
  go_wp2_with fail
  refine (clone_any a1 c1 l _ (by omega) hr1).mono ?_
  rintro en w2 ⟨a2, c2, rfl, hr2, hb2⟩
  go_wp2_with fail
  refine (zzskip_any a1 c1 p e l d _ (by omega) (hr1.later hb2) hp hs).mono ?_
  rintro en w3 ⟨rfl, hb3⟩
  go_wp2_with fail
  refine (same_any a1 a2 c1 c2 l _ (by omega) ((hr1.later hb2).later hb3) (hr2.later hb3)).mono ?_
  rintro en w4 ⟨rfl, n4, rfl⟩
  have HB : Below w.heap.size w (w3.drewN n4) := bdrew ((hb1.trans (hb2.mono hb1.size)).trans (hb3.mono (Nat.le_trans hb1.size hb2.size))) _
  have R3 : Row (w3.drewN n4) a2 l := (hr2.later hb3).drewN n4
  clear hr1 hr2 hb1 hb2 hb3 hr
  generalize w3.drewN n4 = W at HB R3
  obtain ⟨b, off, rfl, hb, hc⟩ := R3.2.resolve_left (by intro e; subst e; simp at hpl)
  have HC : Hid (∀ i, i < l.length → W.cell? ⟨b, off + i, none⟩ = some (.int .u8 (l.getD i 0))) := hc
  clear hc
  go_wp2
  go_loopw [11] (fun i wr => ∃ k m : Nat, p ≤ k ∧ k ≤ e ∧ i = .int .i64 k ∧ wr = W.drewN m) (fun i _ => e - (intOf i).toNat)
  case atStart => exact ⟨p, 0, Nat.le_refl _, hpe, rfl, rfl⟩
  case round =>
    obtain ⟨k, m, hk1, hk2, rfl, rfl⟩ := hrel
    by_cases hlt : k < e
    · obtain ⟨q1, q2⟩ := hs.2.1 k hk1 hlt
      have g := HC.out k q1
      generalize l.getD k 0 = z at g q2
      go_wp2_with fail
      refine (isjson_true z q2 _).mono ?_
      rintro en w' ⟨rfl, rfl⟩
      go_wp2
      go_roundw
      case rel => exact ⟨k + 1, m, by omega, by omega, by go_num, rfl⟩
      case measure => simp [intOf]; omega
    · have hke : k = e := by omega
      subst hke
      by_cases hkl : k < l.length
      · have hns := hs.2.2 hkl
        have g := HC.out k hkl
        generalize l.getD k 0 = z at g hns
        have he : ((k : Int) == (l.length : Int)) = false := beq_eq_false_iff_ne.2 (by omega)
        go_wp2_with (go_at_call 17; refine (isjson_false z hns _).mono ?_; rintro en w' ⟨rfl, rfl⟩)
        go_ret
        exact ⟨rfl, bdrew HB _⟩
      · have hkl2 : k = l.length := by omega
        have he : ((k : Int) == (l.length : Int)) = true := beq_iff_eq.2 (by omega)
        have H : Hid (k = l.length) := hkl2
        clear hkl2
        go_wp2
        go_ret
        exact ⟨rfl, bdrew HB _⟩

/-! ### FnNextAfterSkipSpaceRefusesSpace -/
set_option maxHeartbeats 400000 in
theorem refuses_big (a : Option Addr) (n c : Nat) (p d z : Int) (w : World) (h : 1048576 < n) (hm : n ≤ maxLen) :
    Calls Try.prog 8 #[.slice a n c, .int .i64 p, .int .i64 d, .int .u8 z] w fun e w' => e = .returned (.bool true) ∧ Below w.heap.size w w' := by
  go_enter Try.func8, Try.ntmps8
  go_wp2_with (go_at_call 21; refine (zz21_false _ _ _ _ _ _ _ h hm).mono ?_; rintro e w' ⟨rfl, rfl⟩)
  go_ret
  exact ⟨rfl, Below.refl _ _⟩
set_option maxHeartbeats 400000 in
theorem refuses_neg (a : Option Addr) (n c : Nat) (p d z : Int) (w : World) (h : n ≤ 1048576) (hp : p < 0) :
    Calls Try.prog 8 #[.slice a n c, .int .i64 p, .int .i64 d, .int .u8 z] w fun e w' => e = .returned (.bool true) ∧ Below w.heap.size w w' := by
  go_enter Try.func8, Try.ntmps8
  go_wp2_with (go_at_call 21; refine (zz21_true _ _ _ _ _ _ _ h).mono ?_; rintro e w' ⟨rfl, rfl⟩)
  go_ret
  exact ⟨rfl, Below.refl _ _⟩
set_option maxHeartbeats 400000 in
theorem refuses_other (a : Option Addr) (n c : Nat) (p d z : Int) (w : World) (h : n ≤ 1048576) (hp : 0 ≤ p) (hz : ¬ Sp z) :
    Calls Try.prog 8 #[.slice a n c, .int .i64 p, .int .i64 d, .int .u8 z] w fun e w' => e = .returned (.bool true) ∧ Below w.heap.size w w' := by
  go_enter Try.func8, Try.ntmps8
  go_wp2_with (first | (go_at_call 21; refine (zz21_true _ _ _ _ _ _ _ h).mono ?_; rintro e w' ⟨rfl, rfl⟩) | (go_at_call 17; refine (isjson_false z hz _).mono ?_; rintro e w' ⟨rfl, rfl⟩))
  go_ret
  exact ⟨rfl, Below.refl _ _⟩

set_option maxHeartbeats 1000000 in
theorem refuses_past (a : Option Addr) (c p e : Nat) (l : List Int) (d z : Int) (w : World) (h : l.length ≤ 1048576) (hp : p ≤ 9223372036854775807) (hr : Row w a l) (hz : Sp z) (hs : Sk l p e) (hel : l.length ≤ e) :
    Calls Try.prog 8 #[.slice a l.length c, .int .i64 p, .int .i64 d, .int .u8 z] w fun e w' => e = .returned (.bool true) ∧ Below w.heap.size w w' := by
  go_enter Try.func8, Try.ntmps8
  go_wp2_with (first | (go_at_call 21; refine (zz21_true _ _ _ _ _ _ _ h).mono ?_; rintro e w' ⟨rfl, rfl⟩) | (go_at_call 17; refine (isjson_true z hz _).mono ?_; rintro e w' ⟨rfl, rfl⟩))
  refine (clone_any a c l _ (by omega) hr).mono ?_
  rintro en w1 ⟨a1, c1, rfl, hr1, hb1⟩
  go_wp2_with fail
  refine (clone_any a1 c1 l _ (by omega) hr1).mono ?_
  rintro en w2 ⟨a2, c2, rfl, hr2, hb2⟩
  go_wp2_with fail
  refine (zzskip_any a1 c1 p e l d _ (by omega) (hr1.later hb2) hp hs).mono ?_
  rintro en w3 ⟨rfl, hb3⟩
  go_wp2_with fail
  refine (zznext_past a1 l.length c1 e d z _ (by omega)).mono ?_
  rintro en w4 ⟨rfl, hb4⟩
  go_wp2_with fail
  refine (same_any a1 a2 c1 c2 l _ (by omega) (((hr1.later hb2).later hb3).later hb4) ((hr2.later hb3).later hb4)).mono ?_
  rintro en w5 ⟨rfl, n5, rfl⟩
  have HB : Below w.heap.size w (w4.drewN n5) := bdrew (((hb1.trans (hb2.mono hb1.size)).trans (hb3.mono (Nat.le_trans hb1.size hb2.size))).trans (hb4.mono (Nat.le_trans (Nat.le_trans hb1.size hb2.size) hb3.size))) _
  clear hr1 hr2 hb1 hb2 hb3 hb4 hr
  go_wp2
  go_ret
  exact ⟨rfl, HB⟩

set_option maxHeartbeats 1000000 in
theorem refuses_in (a : Option Addr) (c p e : Nat) (l : List Int) (d z : Int) (w : World) (h : l.length ≤ 1048576) (hp : p ≤ 9223372036854775807) (hr : Row w a l) (hz : Sp z) (hs : Sk l p e) (hel : e < l.length) :
    Calls Try.prog 8 #[.slice a l.length c, .int .i64 p, .int .i64 d, .int .u8 z] w fun e w' => e = .returned (.bool true) ∧ Below w.heap.size w w' := by
  have hne : l.getD e 0 ≠ z := fun e1 => hs.2.2 hel (by rw [e1]; exact hz)
  go_enter Try.func8, Try.ntmps8
  go_wp2_with (first | (go_at_call 21; refine (zz21_true _ _ _ _ _ _ _ h).mono ?_; rintro e w' ⟨rfl, rfl⟩) | (go_at_call 17; refine (isjson_true z hz _).mono ?_; rintro e w' ⟨rfl, rfl⟩))
  refine (clone_any a c l _ (by omega) hr).mono ?_
  rintro en w1 ⟨a1, c1, rfl, hr1, hb1⟩
  go_wp2_with fail
  refine (clone_any a1 c1 l _ (by omega) hr1).mono ?_
  rintro en w2 ⟨a2, c2, rfl, hr2, hb2⟩
  go_wp2_with fail
  refine (zzskip_any a1 c1 p e l d _ (by omega) (hr1.later hb2) hp hs).mono ?_
  rintro en w3 ⟨rfl, hb3⟩
  have R3 := (hr1.later hb2).later hb3
  obtain ⟨b, off, rfl, hb, hc⟩ := R3.2.resolve_left (by intro e1; subst e1; simp at hel)
  have g := hc e hel
  clear hc
  generalize l.getD e 0 = y at g hne
  go_wp2_with fail
  refine (zznext_other b off l.length c1 e d y z _ hel hne hb g).mono ?_
  rintro en w4 ⟨rfl, hb4⟩
  go_wp2_with fail
  refine (same_any _ a2 c1 c2 l _ (by omega) (R3.later hb4) ((hr2.later hb3).later hb4)).mono ?_
  rintro en w5 ⟨rfl, n5, rfl⟩
  have HB : Below w.heap.size w (w4.drewN n5) := bdrew (((hb1.trans (hb2.mono hb1.size)).trans (hb3.mono (Nat.le_trans hb1.size hb2.size))).trans (hb4.mono (Nat.le_trans (Nat.le_trans hb1.size hb2.size) hb3.size))) _
  clear hr1 hr2 hb1 hb2 hb3 hb4 hr R3 g
  go_wp2
  go_ret
  exact ⟨rfl, HB⟩
end Go.Proofs.Qxb6602030a
