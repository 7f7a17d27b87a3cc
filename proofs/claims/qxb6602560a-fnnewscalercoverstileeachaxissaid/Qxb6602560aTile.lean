import Derived.Test.Qxb6602560aScalerBase
import Derived.Test.Qxb6602560aHoldWalk
namespace Go.Proofs.Qxb6602560a
open Go.ChangeShapes Go.WideShapes Go.ChangeAt Go.RowKit
set_option linter.unusedVariables false

/-- The source's two sides on the grid's axes: swapped where the frame is turned. -/
def Sides (o : Int) (dw dh sw sh : Nat) : Prop := (5 ≤ o ∧ o ≤ 8) ∧ sw = dh ∧ sh = dw ∨ ¬ (5 ≤ o ∧ o ≤ 8) ∧ sw = dw ∧ sh = dh

/-- What newScaler does, at every input within the law's bounds. -/
def ScalerSaid : Prop := ∀ (n h dw dh : Nat) (o st : Int) (ap : Option Addr) (lp cp : Nat) (w : World), 1 ≤ n → n ≤ 65536 → 1 ≤ h → h ≤ 65536 → dw ≤ 65536 → dh ≤ 65536 → ∀ sw sh, Sides o dw dh sw sh →
    Calls Try.prog 21 #[.int .i64 n, .int .i64 h, .int .u16 o, .agg #[.slice ap lp cp, .int .i64 dw, .int .i64 dh, .int .i64 st]] w fun e w' => ∃ s, e = .returned (.pointer (some ⟨s, 0, none⟩)) ∧ Made w n h sw sh s w'

theorem new_any (HS : ScalerSaid) (n h dw dh : Nat) (o st : Int) (ap : Option Addr) (lp cp : Nat) (w : World) (hn1 : 1 ≤ n) (hn : n ≤ 65536) (hh1 : 1 ≤ h) (hh : h ≤ 65536) (hdw : dw ≤ 65536) (hdh : dh ≤ 65536) (sw sh : Nat) (hs : Sides o dw dh sw sh) :
    Calls Try.prog 13 #[.int .i64 n, .int .i64 h, .int .u16 o, .slice ap lp cp, .int .i64 dw, .int .i64 dh, .int .i64 st] w fun e w' => ∃ s, e = .returned (.pointer (some ⟨s, 0, none⟩)) ∧ Made w n h sw sh s w' := by
  go_enter Try.func13, Try.ntmps13
  go_wp2_with fail
  refine (HS n h dw dh o st ap lp cp w hn1 hn hh1 hh hdw hdh sw sh hs).mono ?_
  rintro e w' ⟨s, rfl, hM⟩
  have HM : Hid (Made w n h sw sh s w') := hM
  clear hM
  go_wp2
  go_ret
  exact ⟨s, rfl, HM.out⟩

set_option maxRecDepth 20000 in
theorem small_any (a0 a1 a2 a4 a5 a6 : Int) (a : Option Addr) (l c : Nat) (w : World) (hl : l ≤ 1048576) :
    Calls Try.prog 12 #[.int .i64 a0, .int .i64 a1, .int .u16 a2, .slice a l c, .int .i64 a4, .int .i64 a5, .int .i64 a6] w fun e w' => e = .returned (.bool true) ∧ w = w' := by
  go_enter Try.func12, Try.ntmps12
  go_wp2
  go_ret
  exact ⟨rfl, rfl⟩

set_option maxRecDepth 20000 in
theorem large_any (a0 a1 a2 a4 a5 a6 : Int) (a : Option Addr) (l c : Nat) (w : World) (hl : 1048576 < l) :
    Calls Try.prog 12 #[.int .i64 a0, .int .i64 a1, .int .u16 a2, .slice a l c, .int .i64 a4, .int .i64 a5, .int .i64 a6] w fun e w' => e = .returned (.bool false) ∧ w = w' := by
  go_enter Try.func12, Try.ntmps12
  go_wp2
  go_ret
  exact ⟨rfl, rfl⟩

set_option maxRecDepth 20000 in
theorem law_large (a0 a1 a2 a4 a5 a6 : Int) (a : Option Addr) (l c : Nat) (w : World) (hl : 1048576 < l) :
    Calls Try.prog 5 #[.int .i64 a0, .int .i64 a1, .int .u16 a2, .slice a l c, .int .i64 a4, .int .i64 a5, .int .i64 a6] w fun e w' => e = .returned (.bool true) ∧ Below w.heap.size w w' := by
  go_enter Try.func5, Try.ntmps5
  go_wp2_with (go_at_call 12; refine (large_any _ _ _ _ _ _ _ _ _ _ hl).mono ?_; rintro e w' ⟨rfl, rfl⟩)
  go_ret
  exact ⟨rfl, Below.refl _ _⟩

set_option maxRecDepth 100000 in
set_option maxHeartbeats 1000000 in
theorem law_grid (a0 a1 a2 a4 a5 a6 : Int) (a : Option Addr) (l c : Nat) (w : World) (hl : l ≤ 1048576) (hb : a0 < 1 ∨ a1 < 1 ∨ 65536 < a0 ∨ 65536 < a1) :
    Calls Try.prog 5 #[.int .i64 a0, .int .i64 a1, .int .u16 a2, .slice a l c, .int .i64 a4, .int .i64 a5, .int .i64 a6] w fun e w' => e = .returned (.bool true) ∧ Below w.heap.size w w' := by
  by_cases b1 : a0 < 1
  · clear hb
    go_enter Try.func5, Try.ntmps5
    go_wp2_with (go_at_call 12; refine (small_any _ _ _ _ _ _ _ _ _ _ hl).mono ?_; rintro e w' ⟨rfl, rfl⟩)
    go_ret
    exact ⟨rfl, Below.refl _ _⟩
  by_cases b2 : a1 < 1
  · clear hb
    go_enter Try.func5, Try.ntmps5
    go_wp2_with (go_at_call 12; refine (small_any _ _ _ _ _ _ _ _ _ _ hl).mono ?_; rintro e w' ⟨rfl, rfl⟩)
    go_ret
    exact ⟨rfl, Below.refl _ _⟩
  by_cases b3 : 65536 < a0
  · clear hb
    go_enter Try.func5, Try.ntmps5
    go_wp2_with (go_at_call 12; refine (small_any _ _ _ _ _ _ _ _ _ _ hl).mono ?_; rintro e w' ⟨rfl, rfl⟩)
    go_ret
    exact ⟨rfl, Below.refl _ _⟩
  have b4 : 65536 < a1 := by omega
  clear hb
  go_enter Try.func5, Try.ntmps5
  go_wp2_with (go_at_call 12; refine (small_any _ _ _ _ _ _ _ _ _ _ hl).mono ?_; rintro e w' ⟨rfl, rfl⟩)
  go_ret
  exact ⟨rfl, Below.refl _ _⟩

set_option maxRecDepth 100000 in
set_option maxHeartbeats 1000000 in
theorem law_frame (a0 a1 a2 a4 a5 a6 : Int) (a : Option Addr) (l c : Nat) (w : World) (hl : l ≤ 1048576) (g1 : 1 ≤ a0) (g2 : 1 ≤ a1) (g3 : a0 ≤ 65536) (g4 : a1 ≤ 65536) (hb : a4 < 0 ∨ a5 < 0 ∨ 65536 < a4 ∨ 65536 < a5) :
    Calls Try.prog 5 #[.int .i64 a0, .int .i64 a1, .int .u16 a2, .slice a l c, .int .i64 a4, .int .i64 a5, .int .i64 a6] w fun e w' => e = .returned (.bool true) ∧ Below w.heap.size w w' := by
  by_cases b1 : a4 < 0
  · clear hb
    go_enter Try.func5, Try.ntmps5
    go_wp2_with (go_at_call 12; refine (small_any _ _ _ _ _ _ _ _ _ _ hl).mono ?_; rintro e w' ⟨rfl, rfl⟩)
    go_ret
    exact ⟨rfl, Below.refl _ _⟩
  by_cases b2 : a5 < 0
  · clear hb
    go_enter Try.func5, Try.ntmps5
    go_wp2_with (go_at_call 12; refine (small_any _ _ _ _ _ _ _ _ _ _ hl).mono ?_; rintro e w' ⟨rfl, rfl⟩)
    go_ret
    exact ⟨rfl, Below.refl _ _⟩
  by_cases b3 : 65536 < a4
  · clear hb
    go_enter Try.func5, Try.ntmps5
    go_wp2_with (go_at_call 12; refine (small_any _ _ _ _ _ _ _ _ _ _ hl).mono ?_; rintro e w' ⟨rfl, rfl⟩)
    go_ret
    exact ⟨rfl, Below.refl _ _⟩
  have b4 : 65536 < a5 := by omega
  clear hb
  go_enter Try.func5, Try.ntmps5
  go_wp2_with (go_at_call 12; refine (small_any _ _ _ _ _ _ _ _ _ _ hl).mono ?_; rintro e w' ⟨rfl, rfl⟩)
  go_ret
  exact ⟨rfl, Below.refl _ _⟩

set_option maxRecDepth 100000 in
set_option maxHeartbeats 1000000 in
theorem law_area (n h dw dh : Nat) (a2 a6 : Int) (a : Option Addr) (l c : Nat) (w : World) (hl : l ≤ 1048576) (g1 : 1 ≤ n) (g2 : 1 ≤ h) (g3 : n ≤ 65536) (g4 : h ≤ 65536) (g5 : dw ≤ 65536) (g6 : dh ≤ 65536) (P R : Nat) (hP : dw * dh = P) (hR : (n + h) * (dw + dh) = R) (hb : 1048576 < P ∨ 1073741824 < R) :
    Calls Try.prog 5 #[.int .i64 n, .int .i64 h, .int .u16 a2, .slice a l c, .int .i64 dw, .int .i64 dh, .int .i64 a6] w fun e w' => e = .returned (.bool true) ∧ Below w.heap.size w w' := by
  have bP : P ≤ 65536 * 65536 := by rw [← hP]; exact Nat.mul_le_mul g5 g6
  have bR : R ≤ 131072 * 131072 := by rw [← hR]; exact Nat.mul_le_mul (by omega) (by omega)
  have eP : (dw : Int) * (dh : Int) = (P : Int) := by rw [← hP]; exact (Int.natCast_mul dw dh).symm
  have eR : ((n : Int) + (h : Int)) * ((dw : Int) + (dh : Int)) = (R : Int) := by rw [← hR]; push_cast; rfl
  clear hP hR
  by_cases b1 : 1048576 < P
  · clear hb
    go_enter Try.func5, Try.ntmps5
    go_wp2_with (go_at_call 12; refine (small_any _ _ _ _ _ _ _ _ _ _ hl).mono ?_; rintro e w' ⟨rfl, rfl⟩)
    go_ret
    exact ⟨rfl, Below.refl _ _⟩
  have b2 : 1073741824 < R := by omega
  clear hb
  go_enter Try.func5, Try.ntmps5
  go_wp2_with (go_at_call 12; refine (small_any _ _ _ _ _ _ _ _ _ _ hl).mono ?_; rintro e w' ⟨rfl, rfl⟩)
  go_ret
  exact ⟨rfl, Below.refl _ _⟩
end Go.Proofs.Qxb6602560a
