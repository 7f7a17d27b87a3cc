import Derived.Test.Qxb6602030aSkip
import Derived.Test.Qxb6602030aHex
namespace Go.Proofs.Qxb6602030a
open Go.ChangeShapes Go.WideShapes Go.ChangeAt Go.RowKit
set_option linter.unusedVariables false

set_option maxHeartbeats 2000000 in
theorem escape_hex (r b off n ca p : Nat) (d : Value) (w : World) (hn : n ≤ 4194304) (hca : n ≤ ca) (hcm : ca ≤ maxLen) (hp : p + 6 ≤ n) (hbr : b < r)
    (hrd : Rd r (.slice (some ⟨b, off, none⟩) n ca) d p w w) (cu : w.cell? ⟨b, off + (p + 1), none⟩ = some (.int .u8 117))
    (hx : ∀ i, i < 4 → ∃ h, w.cell? ⟨b, off + (p + 1 + 1) + i, none⟩ = some (.int .u8 h) ∧ Hex h) :
    Calls Try.prog 22 #[.pointer (some ⟨r, 0, none⟩)] w fun en w' => en = .returned (.bool true) ∧ Rd r (.slice (some ⟨b, off, none⟩) n ca) d (p + 6) w w' := by
  obtain ⟨g0, g1, g2, gf, gb⟩ := hrd
  have HR : Rd r (.slice (some ⟨b, off, none⟩) n ca) d p w w := ⟨g0, g1, g2, gf, gb⟩
  have HX : Hid (∀ i, i < 4 → ∃ h, w.cell? ⟨b, off + (p + 1 + 1) + i, none⟩ = some (.int .u8 h) ∧ Hex h) := hx
  clear hx
  unfold maxLen at hcm
  have n1 : ¬ b = r := by omega
  have n2 : ¬ r = b := by omega
  have e1 : ((p : Int) + 1 == (n : Int)) = false := beq_eq_false_iff_ne.2 (by omega)
  have t1 : (p : Int) + 1 < (n : Int) := by omega
  have d1 : decide ((n : Int) - ((p : Int) + 1) < 5) = false := decide_eq_false (by omega)
  have e75 : p + 1 + 5 - (p + 1 + 1) = 4 := by omega
  go_enter Try.func22, Try.ntmps22
  go_wp2
  go_quiet (fail)
  go_wp2
  go_quiet (fail)
  go_wp2
  go_quiet (fail)
  go_wp2
  go_quiet (fail)
  go_wp2
  rw [e75]
  go_loopw [77] (fun i wr => ∃ k m : Nat, k ≤ 4 ∧ i = .int .i64 k ∧ wr = (w.setCell ⟨r, 1, none⟩ (.int .i64 ((p : Int) + 1))).drewN m) (fun i _ => 4 - (intOf i).toNat)
  case atStart => exact ⟨0, _, by omega, rfl, by rw [World.drewN_drewN, World.drewN_drewN]⟩
  case round =>
    obtain ⟨k, m, hk, rfl, rfl⟩ := hrel
    by_cases hlt : k < 4
    · obtain ⟨h, hc, hh⟩ := HX.out k hlt
      have hne2 : (b == r) = false := beq_eq_false_iff_ne.2 n1
      rcases hh with ⟨h1, h2⟩ | ⟨h1, h2⟩ | ⟨h1, h2⟩
      all_goals
        go_wp2
        go_roundw
        case rel => exact ⟨k + 1, m, by omega, by go_num, rfl⟩
        case measure => simp [intOf]; omega
    · have hk4 : k = 4 := by omega
      subst hk4
      go_wp2
      go_ret
      have e6 : (p : Int) + 1 + 5 = ((p + 6 : Nat) : Int) := by omega
      rw [e6]
      exact ⟨rfl, ((HR.step (j := p + 1)).drewN m).step⟩
end Go.Proofs.Qxb6602030a
