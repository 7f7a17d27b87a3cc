import Derived.Test.Qxb6602030aRows
import Derived.WalkKit
import Derived.ProofKit
import Derived.Below
import Derived.Deep.QuietTactic
import Derived.BigQuiet
import Derived.WalkLawsBesides
import Derived.Outline
import Derived.Laws.BitsAllLaws
namespace Go.Proofs.Qxb6602030a
open Go.ChangeShapes Go.WideShapes Go.ChangeAt Go.RowKit
set_option linter.unusedVariables false

/-- A hexadecimal digit. -/
def Hex (h : Int) : Prop := (48 ≤ h ∧ h ≤ 57) ∨ (97 ≤ h ∧ h ≤ 102) ∨ (65 ≤ h ∧ h ≤ 70)

theorem and15 (n : Int) (h0 : 0 ≤ n) (h1 : n ≤ 65535) : ∃ m : Int, bits .and .u16 n 15 = m ∧ 0 ≤ m ∧ m ≤ 15 := by
  refine ⟨_, u16_and n 15 h0 (by omega) (by decide) (by decide), by omega, ?_⟩
  have : n.toNat &&& 15 ≤ 15 := Nat.and_le_right
  have e : (15 : Int).toNat = 15 := rfl
  rw [e]; omega

set_option maxHeartbeats 400000 in
theorem hex_of (n : Int) (up : Bool) (h0 : 0 ≤ n) (h1 : n ≤ 65535) (w : World) :
    Calls Try.prog 13 #[.int .u16 n, .bool up] w fun e w' => ∃ h, e = .returned (.int .u8 h) ∧ Hex h ∧ w = w' := by
  obtain ⟨m, hm, hm0, hm1⟩ := and15 n h0 h1
  by_cases h10 : m < 10
  · go_enter Try.func13, Try.ntmps13
    go_wp2
    go_ret
    exact ⟨_, rfl, .inl (by omega), rfl⟩
  · cases up
    · go_enter Try.func13, Try.ntmps13
      go_wp2
      go_ret
      exact ⟨_, rfl, .inr (.inl (by omega)), rfl⟩
    · go_enter Try.func13, Try.ntmps13
      go_wp2
      go_ret
      exact ⟨_, rfl, .inr (.inr (by omega)), rfl⟩
end Go.Proofs.Qxb6602030a
