/-
  No cell of these rows narrows 'for every input' (looked for: loops, veiled, ifaces, maps, wideKeys, modest, calm, conditions, laid).
  DERIVED. THE GIVEN ROWS OF THIS SEAT. 1 by the template 'for every input the law returns true; each argument reads behind the call as it read before'; 0 by the template 'total and deterministic' (their statements: Qxb6604392aTotals.lean).
  GIVEN WITH THE SEED: the statements are not yours to turn. If you find one false, say at which input.
  Laid BY PROGRAM, IN A SANDBOX (cutbox-rows.mjs): the forced cells as the released guide's own fill.sh prints them over the translation 5fb23b5b027c441e… (all of the seat's roots in one cut). By AI agents, Wed Nov 11 2026. No macro, syntax, notation, axiom, sorry.
-/
import Derived.Test.Qxb6604392aChecked
import GoSem.Claim
import GoSem.ClaimJoined
import GoSem.ClaimMapViews
import Derived.JoinedTies
import Derived.KernelRfl
namespace Go.Proofs.Qxb6604392a
/- THE CELL 'sum', in the pinned program and in every row, IS THE sha256 OF THE DUMP (.gsa) THAT Qxb6604392aProg.lean LOADS. Nothing in Lean hashes anything: it is a label: what it is worth is what the hold of that sum in a sandbox is worth. -/
noncomputable def Try.pinned : Pinned := { name := "qxb6604392a", sum := "5fb23b5b027c441e56fe8282f43d70f3d12209f00059620875b464773abe0b76", checked := Try.checked }
namespace Rows
def none {H : Type} : Left H := { results := [], args := [] }

/-- 'zzlaws_pkg_history_b1.FnRelevantIsOrderFreeIdempotentAndKeepsEveryAnswer': WHATEVER THE INPUT: true; the input reads as it did. -/
def fnRelevantIsOrderFreeIdempotentAndKeepsEveryAnswerSpec : ChangeSpec := { name := "fnRelevantIsOrderFreeIdempotentAndKeepsEveryAnswer", fn := fun _ => fun
  | [d] => { results := [.lit (.bool true)], args := [d] }
  | _ => none }
def fnRelevantIsOrderFreeIdempotentAndKeepsEveryAnswerRow : OpenClaim := { program := "qxb6604392a", sum := "5fb23b5b027c441e56fe8282f43d70f3d12209f00059620875b464773abe0b76", func := "example.com/tenure/tenure/zzlaws_pkg_history_b1.FnRelevantIsOrderFreeIdempotentAndKeepsEveryAnswer", spec := "fnRelevantIsOrderFreeIdempotentAndKeepsEveryAnswer", unfollowed := true, recurses := true, plainKeys := false, apart := false }
def FnRelevantIsOrderFreeIdempotentAndKeepsEveryAnswerSaid : Prop := fnRelevantIsOrderFreeIdempotentAndKeepsEveryAnswerRow.holds Try.pinned (OpenSpec.ofChange fnRelevantIsOrderFreeIdempotentAndKeepsEveryAnswerSpec)

/-- ITS FALSE NEIGHBOUR: 'it returns false'. Refute it at one input. -/
def fnRelevantIsOrderFreeIdempotentAndKeepsEveryAnswerWrong : ChangeSpec := { name := "fnRelevantIsOrderFreeIdempotentAndKeepsEveryAnswer", fn := fun _ => fun
  | [d] => { results := [.lit (.bool false)], args := [d] }
  | _ => none }
def FnRelevantIsOrderFreeIdempotentAndKeepsEveryAnswerWrongFalsely : Prop := fnRelevantIsOrderFreeIdempotentAndKeepsEveryAnswerRow.holds Try.pinned (OpenSpec.ofChange fnRelevantIsOrderFreeIdempotentAndKeepsEveryAnswerWrong)

end Rows
end Go.Proofs.Qxb6604392a
