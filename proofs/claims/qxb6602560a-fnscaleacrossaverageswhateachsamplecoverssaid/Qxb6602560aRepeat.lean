import Derived.Test.Qxb6602560aScaled
import Derived.Test.Qxb6602560aOnes
namespace Go.Proofs.Qxb6602560a
open Go.ChangeShapes Go.WideShapes Go.ChangeAt Go.RowKit
set_option linter.unusedVariables false

set_option maxHeartbeats 400000 in
theorem zzcovers_any (n m : Nat) (w : World) (hn : n ≤ 65536) (hn1 : 1 ≤ n) (hm : m ≤ 65536) :
    Calls Try.prog 9 #[.int .i64 n, .int .i64 m] w fun e w' => e = .returned (.tuple #[.slice (some ⟨w.heap.size, 0, none⟩) m m, .float .f32 (fdiv (f32 m) (f32 n))]) ∧
      Below w.heap.size w w' ∧ w.heap.size < w'.heap.size ∧ ∀ i, i < m → CovAt w' w.heap.size n m i := by
  go_enter Try.func9, Try.ntmps9
  go_wp2_with fail
  refine (covers_any n m _ hn hn1 hm).mono ?_
  rintro e w1 ⟨rfl, h1, h2, h3⟩
  have H3 : Hid (∀ i, i < m → CovAt w1 w.heap.size n m i) := h3
  clear h3
  go_wp2
  go_ret2
  exact ⟨rfl, h1, h2, H3.out⟩

set_option maxHeartbeats 400000 in
theorem zzacross {P : World → Prop} (v0 v1 v2 : Value) (full : Nat) (w : World)
    (h : Calls Try.prog 20 #[v0, v1, v2, .float .f32 full] w fun e w' => e = .returned (.tuple #[]) ∧ P w') :
    Calls Try.prog 10 #[v0, v1, v2, .float .f32 full] w fun e w' => e = .returned (.tuple #[]) ∧ P w' := by
  have HH : Hid (Calls Try.prog 20 #[v0, v1, v2, .float .f32 full] w fun e w' => e = .returned (.tuple #[]) ∧ P w') := h
  clear h
  go_enter Try.func10, Try.ntmps10
  go_wp2_with fail
  refine HH.out.mono ?_
  rintro e w1 ⟨rfl, h1⟩
  clear HH
  go_wp2
  go_end0
  exact ⟨rfl, h1⟩

set_option maxHeartbeats 400000 in
/-- scaleAcross into nothing. -/
theorem across_zero (ao : Option Addr) (co : Nat) (ar : Option Addr) (n cr : Nat) (ax : Option Addr) (cx full : Nat) (w : World) :
    Calls Try.prog 20 #[.slice ao 0 co, .slice ar n cr, .slice ax 0 cx, .float .f32 full] w fun e w' => e = .returned (.tuple #[]) ∧ w = w' := by
  by_cases hn : n = 0
  · subst hn
    go_enter Try.func20, Try.ntmps20
    go_wp2
    refine wp_loop_rounds 1 ?_
    rw [rounds_succ]
    go_wp2
    exact bodyPost_ret (v := .tuple #[]) (by simp [results, Try.results20]) rfl ⟨rfl, rfl⟩
  · have he : ((n : Int) == 0) = false := beq_eq_false_iff_ne.2 (by omega)
    go_enter Try.func20, Try.ntmps20
    go_wp2
    refine wp_loop_rounds 1 ?_
    rw [rounds_succ]
    go_wp2
    go_end0
    exact ⟨rfl, rfl⟩

set_option maxHeartbeats 400000 in
theorem zz11_true (a0 a3 : Option Addr) (n0 c0 n3 c3 : Nat) (w : World) (h : n0 + n3 ≤ 1048576) :
    Calls Try.prog 11 #[.slice a0 n0 c0, .slice a3 n3 c3] w fun e w' => e = .returned (.bool true) ∧ w = w' := by
  go_enter Try.func11, Try.ntmps11
  go_wp2
  go_ret
  exact ⟨rfl, rfl⟩
set_option maxHeartbeats 400000 in
theorem zz11_false (a0 a3 : Option Addr) (n0 c0 n3 c3 : Nat) (w : World) (h : 1048576 < n0 + n3) (h0 : n0 ≤ maxLen) (h3 : n3 ≤ maxLen) :
    Calls Try.prog 11 #[.slice a0 n0 c0, .slice a3 n3 c3] w fun e w' => e = .returned (.bool false) ∧ w = w' := by
  unfold maxLen at h0 h3
  go_enter Try.func11, Try.ntmps11
  go_wp2
  all_goals first | (exfalso; omega) | (go_ret; exact ⟨rfl, rfl⟩)

set_option maxHeartbeats 400000 in
theorem rep_big (a0 a3 : Option Addr) (n0 c0 n3 c3 : Nat) (w : World) (h : 1048576 < n0 + n3) (h0 : n0 ≤ maxLen) (h3 : n3 ≤ maxLen) :
    Calls Try.prog 4 #[.slice a0 n0 c0, .slice a3 n3 c3] w fun e w' => e = .returned (.bool true) ∧ Below w.heap.size w w' := by
  go_enter Try.func4, Try.ntmps4
  go_wp2_with (go_at_call 11; refine (zz11_false _ _ _ _ _ _ _ h h0 h3).mono ?_; rintro e w' ⟨rfl, rfl⟩)
  go_ret
  exact ⟨rfl, Below.refl _ _⟩
set_option maxHeartbeats 400000 in
theorem rep_long (a0 a3 : Option Addr) (n0 c0 n3 c3 : Nat) (w : World) (h : n0 + n3 ≤ 1048576) (hl : 32768 < n0 ∨ 32768 < n3) :
    Calls Try.prog 4 #[.slice a0 n0 c0, .slice a3 n3 c3] w fun e w' => e = .returned (.bool true) ∧ Below w.heap.size w w' := by
  go_enter Try.func4, Try.ntmps4
  go_wp2_with (go_at_call 11; refine (zz11_true _ _ _ _ _ _ _ h).mono ?_; rintro e w' ⟨rfl, rfl⟩)
  all_goals first | (exfalso; omega) | (go_ret; exact ⟨rfl, Below.refl _ _⟩)
set_option maxHeartbeats 400000 in
theorem rep_nil (a0 a3 : Option Addr) (n0 c0 c3 : Nat) (w : World) (h : n0 ≤ 32768) :
    Calls Try.prog 4 #[.slice a0 n0 c0, .slice a3 0 c3] w fun e w' => e = .returned (.bool true) ∧ Below w.heap.size w w' := by
  go_enter Try.func4, Try.ntmps4
  go_wp2_with (go_at_call 11; refine (zz11_true _ _ _ _ _ _ _ (by omega)).mono ?_; rintro e w' ⟨rfl, rfl⟩)
  go_ret
  exact ⟨rfl, Below.refl _ _⟩
set_option maxHeartbeats 400000 in
theorem rep_rest (a0 a3 : Option Addr) (n0 c0 n3 c3 : Nat) (w : World) (h : n0 ≤ 32768) (h3 : n3 ≤ 32768) (hn : 1 ≤ n3) (hr : n0 % n3 ≠ 0) :
    Calls Try.prog 4 #[.slice a0 n0 c0, .slice a3 n3 c3] w fun e w' => e = .returned (.bool true) ∧ Below w.heap.size w w' := by
  have hz : ((n3 : Int) == 0) = false := beq_eq_false_iff_ne.2 (by omega)
  obtain ⟨R, hR⟩ : ∃ R, R = n0 % n3 := ⟨_, rfl⟩
  have eR : (n0 : Int) % (n3 : Int) = (R : Int) := by rw [hR]; rfl
  have hne : ((R : Int) == 0) = false := beq_eq_false_iff_ne.2 (by omega)
  have hRb : R ≤ 32768 := by have := Nat.mod_lt n0 (show 0 < n3 by omega); omega
  clear hR hr
  go_enter Try.func4, Try.ntmps4
  go_wp2_with (go_at_call 11; refine (zz11_true _ _ _ _ _ _ _ (by omega)).mono ?_; rintro e w' ⟨rfl, rfl⟩)
  go_ret
  exact ⟨rfl, Below.refl _ _⟩
end Go.Proofs.Qxb6602560a
