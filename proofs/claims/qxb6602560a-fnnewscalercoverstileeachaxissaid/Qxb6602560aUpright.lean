import Derived.Test.Qxb6602560aCovers
import Derived.RegionTactic
import Derived.BigRegion
namespace Go.Proofs.Qxb6602560a
open Go.ChangeShapes Go.WideShapes Go.ChangeAt Go.RowKit
set_option linter.unusedVariables false

set_option maxHeartbeats 400000 in
theorem turns_any (o : Int) (w : World) : Calls Try.prog 23 #[.int .u16 o] w fun e w' => e = .returned (.bool (decide (5 ≤ o ∧ o ≤ 8))) ∧ w = w' := by
  by_cases h1 : 5 ≤ o
  · by_cases h2 : o ≤ 8
    · have hd : decide (5 ≤ o ∧ o ≤ 8) = true := by simp; omega
      rw [hd]
      go_enter Try.func23, Try.ntmps23
      go_wp2
      go_ret
      exact ⟨rfl, rfl⟩
    · have hd : decide (5 ≤ o ∧ o ≤ 8) = false := by simp; omega
      rw [hd]
      go_enter Try.func23, Try.ntmps23
      go_wp2
      go_ret
      exact ⟨rfl, rfl⟩
  · have hd : decide (5 ≤ o ∧ o ≤ 8) = false := by simp; omega
    rw [hd]
    go_enter Try.func23, Try.ntmps23
    go_wp2
    go_ret
    exact ⟨rfl, rfl⟩

set_option maxHeartbeats 1000000 in
theorem upright_any (o x y w' h : Int) (w : World) : Calls Try.prog 25 #[.int .u16 o, .int .i64 x, .int .i64 y, .int .i64 w', .int .i64 h] w fun e w2 => ∃ a b, e = .returned (.tuple #[.int .i64 a, .int .i64 b]) ∧ w = w2 := by
  by_cases h2 : o = 2
  · subst h2; go_enter Try.func25, Try.ntmps25; go_wp2; go_ret2; exact ⟨_, _, rfl, rfl⟩
  by_cases h3 : o = 3
  · subst h3; go_enter Try.func25, Try.ntmps25; go_wp2; go_ret2; exact ⟨_, _, rfl, rfl⟩
  by_cases h4 : o = 4
  · subst h4; go_enter Try.func25, Try.ntmps25; go_wp2; go_ret2; exact ⟨_, _, rfl, rfl⟩
  by_cases h5 : o = 5
  · subst h5; go_enter Try.func25, Try.ntmps25; go_wp2; go_ret2; exact ⟨_, _, rfl, rfl⟩
  by_cases h6 : o = 6
  · subst h6; go_enter Try.func25, Try.ntmps25; go_wp2; go_ret2; exact ⟨_, _, rfl, rfl⟩
  by_cases h7 : o = 7
  · subst h7; go_enter Try.func25, Try.ntmps25; go_wp2; go_ret2; exact ⟨_, _, rfl, rfl⟩
  by_cases h8 : o = 8
  · subst h8; go_enter Try.func25, Try.ntmps25; go_wp2; go_ret2; exact ⟨_, _, rfl, rfl⟩
  have e2 : (o == 2) = false := beq_eq_false_iff_ne.2 h2
  have e3 : (o == 3) = false := beq_eq_false_iff_ne.2 h3
  have e4 : (o == 4) = false := beq_eq_false_iff_ne.2 h4
  have e5 : (o == 5) = false := beq_eq_false_iff_ne.2 h5
  have e6 : (o == 6) = false := beq_eq_false_iff_ne.2 h6
  have e7 : (o == 7) = false := beq_eq_false_iff_ne.2 h7
  have e8 : (o == 8) = false := beq_eq_false_iff_ne.2 h8
  go_enter Try.func25, Try.ntmps25
  go_wp2
  go_ret2
  exact ⟨_, _, rfl, rfl⟩

set_option maxHeartbeats 1000000 in
/-- The closure 'offset': some number; nothing is written. -/
theorem offset_any (x y o sw sh st : Int) (bo bs bh bd : Nat) (w : World) (c1 : w.cell? ⟨bo, 0, none⟩ = some (.int .u16 o)) (c2 : w.cell? ⟨bs, 0, none⟩ = some (.int .i64 sw)) (c3 : w.cell? ⟨bh, 0, none⟩ = some (.int .i64 sh)) (c4 : w.cell? ⟨bd, 3, none⟩ = some (.int .i64 st)) :
    Calls Try.prog 24 #[.int .i64 x, .int .i64 y, .pointer (some ⟨bo, 0, none⟩), .pointer (some ⟨bs, 0, none⟩), .pointer (some ⟨bh, 0, none⟩), .pointer (some ⟨bd, 0, none⟩)] w fun e w' => ∃ v, e = .returned (.int .i64 v) ∧ w = w' := by
  go_enter Try.func24, Try.ntmps24
  go_wp2_with fail
  refine (upright_any _ _ _ _ _ _).mono ?_
  rintro e w1 ⟨a, b, rfl, rfl⟩
  go_wp2
  go_ret
  exact ⟨_, rfl, rfl⟩

set_option maxHeartbeats 400000 in
theorem state_any (s : Nat) (a b : Int) (c : Bool) (w : World) (h1 : w.cell? ⟨s, 13, none⟩ = some (.int .i64 a)) (h2 : w.cell? ⟨s, 14, none⟩ = some (.int .i64 b)) (h3 : w.cell? ⟨s, 15, none⟩ = some (.bool c)) :
    Calls Try.prog 14 #[.pointer (some ⟨s, 0, none⟩)] w fun e w' => e = .returned (.tuple #[.int .i64 a, .int .i64 b, .bool c]) ∧ ∃ m, w' = w.drewN m := by
  go_enter Try.func14, Try.ntmps14
  go_wp2
  go_quiet (fail)
  go_wp2
  go_ret3
  exact ⟨rfl, _, rfl⟩

set_option maxHeartbeats 400000 in
theorem full_any (s a b : Nat) (w : World) (h1 : w.cell? ⟨s, 9, none⟩ = some (.float .f32 a)) (h2 : w.cell? ⟨s, 10, none⟩ = some (.float .f32 b)) :
    Calls Try.prog 15 #[.pointer (some ⟨s, 0, none⟩)] w fun e w' => e = .returned (.tuple #[.float .f32 a, .float .f32 b]) ∧ ∃ m, w' = w.drewN m := by
  go_enter Try.func15, Try.ntmps15
  go_wp2
  go_quiet (fail)
  go_wp2
  go_ret2
  exact ⟨rfl, _, rfl⟩

set_option maxHeartbeats 400000 in
theorem xs_any (s : Nat) (a : Option Addr) (n c : Nat) (w : World) (h1 : w.cell? ⟨s, 7, none⟩ = some (.slice a n c)) :
    Calls Try.prog 17 #[.pointer (some ⟨s, 0, none⟩)] w fun e w' => e = .returned (.slice a n c) ∧ w = w' := by
  go_enter Try.func17, Try.ntmps17
  go_wp2
  go_ret
  exact ⟨rfl, rfl⟩
set_option maxHeartbeats 400000 in
theorem ys_any (s : Nat) (a : Option Addr) (n c : Nat) (w : World) (h1 : w.cell? ⟨s, 8, none⟩ = some (.slice a n c)) :
    Calls Try.prog 18 #[.pointer (some ⟨s, 0, none⟩)] w fun e w' => e = .returned (.slice a n c) ∧ w = w' := by
  go_enter Try.func18, Try.ntmps18
  go_wp2
  go_ret
  exact ⟨rfl, rfl⟩
end Go.Proofs.Qxb6602560a
