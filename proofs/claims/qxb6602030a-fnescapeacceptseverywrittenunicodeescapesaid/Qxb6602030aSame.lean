import Derived.Test.Qxb6602030aRows
import Derived.WalkKit
import Derived.ProofKit
import Derived.Below
import Derived.Deep.QuietTactic
import Derived.BigQuiet
import Derived.WalkLawsBesides
import Derived.Outline
namespace Go.Proofs.Qxb6602030a
open Go.ChangeShapes Go.WideShapes Go.ChangeAt Go.RowKit
set_option linter.unusedVariables false

/-- The slice at address a holds the bytes l (each between 0 and 255), in memory that is there. -/
def Row (w : World) (a : Option Addr) (l : List Int) : Prop :=
  (∀ i, i < l.length → 0 ≤ l.getD i 0 ∧ l.getD i 0 ≤ 255) ∧
  (l = [] ∨ ∃ b off, a = some ⟨b, off, none⟩ ∧ b < w.heap.size ∧ ∀ i, i < l.length → w.cell? ⟨b, off + i, none⟩ = some (.int .u8 (l.getD i 0)))

set_option maxHeartbeats 400000 in
theorem same_nil (a b : Option Addr) (ca cb : Nat) (w : World) :
    Calls Try.prog 14 #[.slice a 0 ca, .slice b 0 cb] w fun e w' => e = .returned (.bool true) ∧ ∃ m, w' = w.drewN m := by
  go_enter Try.func14, Try.ntmps14
  go_wp2
  refine wp_loop_rounds 1 ?_
  rw [rounds_succ]
  go_wp2
  go_ret
  exact ⟨rfl, 0, rfl⟩

set_option maxHeartbeats 400000 in
theorem same_some (b1 o1 b2 o2 : Nat) (ca cb : Nat) (l : List Int) (w : World) (hl : l.length ≤ 4194304)
    (h1 : ∀ i, i < l.length → w.cell? ⟨b1, o1 + i, none⟩ = some (.int .u8 (l.getD i 0)))
    (h2 : ∀ i, i < l.length → w.cell? ⟨b2, o2 + i, none⟩ = some (.int .u8 (l.getD i 0))) :
    Calls Try.prog 14 #[.slice (some ⟨b1, o1, none⟩) l.length ca, .slice (some ⟨b2, o2, none⟩) l.length cb] w fun e w' => e = .returned (.bool true) ∧ ∃ m, w' = w.drewN m := by
  go_enter Try.func14, Try.ntmps14
  go_wp2
  go_loopw [5] (fun i wr => ∃ k m : Nat, k ≤ l.length ∧ i = .int .i64 k ∧ wr = w.drewN m) (fun i _ => l.length - (intOf i).toNat)
  case atStart => exact ⟨0, 0, Nat.zero_le _, rfl, rfl⟩
  case round =>
    obtain ⟨k, m, hk, rfl, rfl⟩ := hrel
    by_cases hlt : k < l.length
    · have c1 := h1 k hlt
      have c2 := h2 k hlt
      have hlt' : (k : Int) < (l.length : Int) := by omega
      go_wp2
      go_quiet (fail)
      go_wp2
      go_roundw
      case rel => exact ⟨k + 1, _, by omega, by go_num, rfl⟩
      case measure => simp [intOf]; omega
    · go_wp2
      go_ret
      exact ⟨rfl, m, rfl⟩
end Go.Proofs.Qxb6602030a
