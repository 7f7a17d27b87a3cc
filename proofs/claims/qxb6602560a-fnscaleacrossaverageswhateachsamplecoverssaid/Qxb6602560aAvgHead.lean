import Derived.Test.Qxb6602560aRepMain
import Derived.Test.Qxb6602560aCmp
import Derived.RegionTactic
import Derived.BigRegion
namespace Go.Proofs.Qxb6602560a
open Go.ChangeShapes Go.WideShapes Go.ChangeAt Go.RowKit
set_option linter.unusedVariables false

set_option maxHeartbeats 400000 in
theorem zz6_true (a0 a3 : Option Addr) (n0 c0 n3 c3 : Nat) (w : World) (h : n0 + n3 ≤ 1048576) :
    Calls Try.prog 6 #[.slice a0 n0 c0, .slice a3 n3 c3] w fun e w' => e = .returned (.bool true) ∧ w = w' := by
  go_enter Try.func6, Try.ntmps6
  go_wp2
  go_ret
  exact ⟨rfl, rfl⟩
set_option maxHeartbeats 400000 in
theorem zz6_false (a0 a3 : Option Addr) (n0 c0 n3 c3 : Nat) (w : World) (h : 1048576 < n0 + n3) (h0 : n0 ≤ maxLen) (h3 : n3 ≤ maxLen) :
    Calls Try.prog 6 #[.slice a0 n0 c0, .slice a3 n3 c3] w fun e w' => e = .returned (.bool false) ∧ w = w' := by
  unfold maxLen at h0 h3
  go_enter Try.func6, Try.ntmps6
  go_wp2
  all_goals first | (exfalso; omega) | (go_ret; exact ⟨rfl, rfl⟩)

set_option maxHeartbeats 400000 in
theorem avg_big (a0 a3 : Option Addr) (n0 c0 n3 c3 : Nat) (w : World) (h : 1048576 < n0 + n3) (h0 : n0 ≤ maxLen) (h3 : n3 ≤ maxLen) :
    Calls Try.prog 3 #[.slice a0 n0 c0, .slice a3 n3 c3] w fun e w' => e = .returned (.bool true) ∧ Below w.heap.size w w' := by
  go_enter Try.func3, Try.ntmps3
  go_wp2_with (go_at_call 6; refine (zz6_false _ _ _ _ _ _ _ h h0 h3).mono ?_; rintro e w' ⟨rfl, rfl⟩)
  go_ret
  exact ⟨rfl, Below.refl _ _⟩
set_option maxHeartbeats 400000 in
theorem avg_long (a0 a3 : Option Addr) (n0 c0 n3 c3 : Nat) (w : World) (h : n0 + n3 ≤ 1048576) (hl : 32768 < n0 ∨ 32768 < n3) :
    Calls Try.prog 3 #[.slice a0 n0 c0, .slice a3 n3 c3] w fun e w' => e = .returned (.bool true) ∧ Below w.heap.size w w' := by
  rcases hl with hl | hl
  · go_enter Try.func3, Try.ntmps3
    go_wp2_with (go_at_call 6; refine (zz6_true _ _ _ _ _ _ _ h).mono ?_; rintro e w' ⟨rfl, rfl⟩)
    go_ret
    exact ⟨rfl, Below.refl _ _⟩
  · by_cases h0 : 32768 < n0
    · go_enter Try.func3, Try.ntmps3
      go_wp2_with (go_at_call 6; refine (zz6_true _ _ _ _ _ _ _ h).mono ?_; rintro e w' ⟨rfl, rfl⟩)
      go_ret
      exact ⟨rfl, Below.refl _ _⟩
    · go_enter Try.func3, Try.ntmps3
      go_wp2_with (go_at_call 6; refine (zz6_true _ _ _ _ _ _ _ h).mono ?_; rintro e w' ⟨rfl, rfl⟩)
      go_ret
      exact ⟨rfl, Below.refl _ _⟩
set_option maxHeartbeats 400000 in
theorem avg_norow (a0 a3 : Option Addr) (n0 c0 c3 : Nat) (w : World) (h : n0 ≤ 32768) (h1 : 1 ≤ n0) :
    Calls Try.prog 3 #[.slice a0 n0 c0, .slice a3 0 c3] w fun e w' => e = .returned (.bool true) ∧ Below w.heap.size w w' := by
  go_enter Try.func3, Try.ntmps3
  go_wp2_with (go_at_call 6; refine (zz6_true _ _ _ _ _ _ _ (by omega)).mono ?_; rintro e w' ⟨rfl, rfl⟩)
  go_ret
  exact ⟨rfl, Below.refl _ _⟩

theorem Try.info2 : (Try.prog.info? 2).map (fun i => (i.zero, i.size, i.bytes)) = some (some (.int .i64 0), 1, 8) := by kernel_rfl

/-- What holds of acc's array. -/
structure IRel (w : World) (g m : Nat) (acc : Nat → Nat) (wr : World) : Prop where
  hv : ∀ j, j < m → wr.cell? ⟨g, j, none⟩ = some (.int .i64 (acc j : Int))
  hfz : ∀ j, wr.frozen? ⟨g, j, none⟩ = false
  hgr : w.grownBy wr (some g)

theorem IRel.drewN {w : World} {g m : Nat} {acc : Nat → Nat} {wr : World} (h : IRel w g m acc wr) (n : Nat) : IRel w g m acc (wr.drewN n) := ⟨h.hv, h.hfz, grown_drewN h.hgr n⟩
theorem IRel.set {w : World} {g m i : Nat} {acc : Nat → Nat} {wr : World} (h : IRel w g m acc wr) (hi : i < m) {x : Int} {y : Nat} (hx : x = (y : Int)) :
    IRel w g m (fun j => if j = i then y else acc j) (wr.setCell ⟨g, i, none⟩ (.int .i64 x)) := by
  refine ⟨fun j hj => ?_, fun j => ?_, grown_set h.hgr i _⟩
  · by_cases e : i = j
    · subst e; rw [sc_same wr g i _ _ (h.hv i hi), hx, if_pos rfl]
    · rw [sc_other _ _ _ _ _ e, h.hv j hj, if_neg (fun e' => e e'.symm)]
  · rw [World.frozen?_setCell]; exact h.hfz j
end Go.Proofs.Qxb6602560a
