/-
  No cell of these rows narrows 'for every input' (looked for: loops, veiled, ifaces, maps, wideKeys, modest, calm, conditions, laid).
  DERIVED. THE GIVEN ROWS OF THIS SEAT. 6 by the template 'for every input the law returns true; each argument reads behind the call as it read before'; 0 by the template 'total and deterministic' (their statements: Qxb6602030aTotals.lean).
  GIVEN WITH THE SEED: the statements are not yours to turn. If you find one false, say at which input.
  Laid BY PROGRAM, IN A SANDBOX (cutbox-rows.mjs): the forced cells as the released guide's own fill.sh prints them over the translation 63e042ddbcf6b0c8… (all of the seat's roots in one cut). By AI agents, Wed Nov 11 2026. No macro, syntax, notation, axiom, sorry.
-/
import Derived.Test.Qxb6602030aChecked
import GoSem.Claim
import GoSem.ClaimJoined
import GoSem.ClaimMapViews
import Derived.JoinedTies
import Derived.KernelRfl
namespace Go.Proofs.Qxb6602030a
/- THE CELL 'sum', in the pinned program and in every row, IS THE sha256 OF THE DUMP (.gsa) THAT Qxb6602030aProg.lean LOADS. Nothing in Lean hashes anything: it is a label: what it is worth is what the hold of that sum in a sandbox is worth. -/
noncomputable def Try.pinned : Pinned := { name := "qxb6602030a", sum := "63e042ddbcf6b0c876f6eed03439a8409cce4f130c52dfcaaa1e55c40481f3be", checked := Try.checked }
namespace Rows
def none {H : Type} : Left H := { results := [], args := [] }

/-- 'zzlaws_root_b1.FnEscapeVerdictLooksOnlyAtSixBytes': WHATEVER THE INPUT: true; the input reads as it did. -/
def fnEscapeVerdictLooksOnlyAtSixBytesSpec : ChangeSpec := { name := "fnEscapeVerdictLooksOnlyAtSixBytes", fn := fun _ => fun
  | [d1, d2, d3] => { results := [.lit (.bool true)], args := [d1, d2, d3] }
  | _ => none }
def fnEscapeVerdictLooksOnlyAtSixBytesRow : OpenClaim := { program := "qxb6602030a", sum := "63e042ddbcf6b0c876f6eed03439a8409cce4f130c52dfcaaa1e55c40481f3be", func := "example.com/sigilchain/sigilchain/zzlaws_root_b1.FnEscapeVerdictLooksOnlyAtSixBytes", spec := "fnEscapeVerdictLooksOnlyAtSixBytes", apart := false }
def FnEscapeVerdictLooksOnlyAtSixBytesSaid : Prop := fnEscapeVerdictLooksOnlyAtSixBytesRow.holds Try.pinned (OpenSpec.ofChange fnEscapeVerdictLooksOnlyAtSixBytesSpec)

/-- ITS FALSE NEIGHBOUR: 'it returns false'. Refute it at one input. -/
def fnEscapeVerdictLooksOnlyAtSixBytesWrong : ChangeSpec := { name := "fnEscapeVerdictLooksOnlyAtSixBytes", fn := fun _ => fun
  | [d1, d2, d3] => { results := [.lit (.bool false)], args := [d1, d2, d3] }
  | _ => none }
def FnEscapeVerdictLooksOnlyAtSixBytesWrongFalsely : Prop := fnEscapeVerdictLooksOnlyAtSixBytesRow.holds Try.pinned (OpenSpec.ofChange fnEscapeVerdictLooksOnlyAtSixBytesWrong)

/-- 'zzlaws_root_b1.FnEscapeAcceptsEveryWrittenUnicodeEscape': WHATEVER THE INPUT: true; the input reads as it did. -/
def fnEscapeAcceptsEveryWrittenUnicodeEscapeSpec : ChangeSpec := { name := "fnEscapeAcceptsEveryWrittenUnicodeEscape", fn := fun _ => fun
  | [d1, d2, d3, d4, d5] => { results := [.lit (.bool true)], args := [d1, d2, d3, d4, d5] }
  | _ => none }
def fnEscapeAcceptsEveryWrittenUnicodeEscapeRow : OpenClaim := { program := "qxb6602030a", sum := "63e042ddbcf6b0c876f6eed03439a8409cce4f130c52dfcaaa1e55c40481f3be", func := "example.com/sigilchain/sigilchain/zzlaws_root_b1.FnEscapeAcceptsEveryWrittenUnicodeEscape", spec := "fnEscapeAcceptsEveryWrittenUnicodeEscape", apart := false }
def FnEscapeAcceptsEveryWrittenUnicodeEscapeSaid : Prop := fnEscapeAcceptsEveryWrittenUnicodeEscapeRow.holds Try.pinned (OpenSpec.ofChange fnEscapeAcceptsEveryWrittenUnicodeEscapeSpec)

/-- ITS FALSE NEIGHBOUR: 'it returns false'. Refute it at one input. -/
def fnEscapeAcceptsEveryWrittenUnicodeEscapeWrong : ChangeSpec := { name := "fnEscapeAcceptsEveryWrittenUnicodeEscape", fn := fun _ => fun
  | [d1, d2, d3, d4, d5] => { results := [.lit (.bool false)], args := [d1, d2, d3, d4, d5] }
  | _ => none }
def FnEscapeAcceptsEveryWrittenUnicodeEscapeWrongFalsely : Prop := fnEscapeAcceptsEveryWrittenUnicodeEscapeRow.holds Try.pinned (OpenSpec.ofChange fnEscapeAcceptsEveryWrittenUnicodeEscapeWrong)

/-- 'zzlaws_root_b1.FnSkipSpaceStopsAtFirstNonSpace': WHATEVER THE INPUT: true; the input reads as it did. -/
def fnSkipSpaceStopsAtFirstNonSpaceSpec : ChangeSpec := { name := "fnSkipSpaceStopsAtFirstNonSpace", fn := fun _ => fun
  | [d1, d2, d3] => { results := [.lit (.bool true)], args := [d1, d2, d3] }
  | _ => none }
def fnSkipSpaceStopsAtFirstNonSpaceRow : OpenClaim := { program := "qxb6602030a", sum := "63e042ddbcf6b0c876f6eed03439a8409cce4f130c52dfcaaa1e55c40481f3be", func := "example.com/sigilchain/sigilchain/zzlaws_root_b1.FnSkipSpaceStopsAtFirstNonSpace", spec := "fnSkipSpaceStopsAtFirstNonSpace", apart := false }
def FnSkipSpaceStopsAtFirstNonSpaceSaid : Prop := fnSkipSpaceStopsAtFirstNonSpaceRow.holds Try.pinned (OpenSpec.ofChange fnSkipSpaceStopsAtFirstNonSpaceSpec)

/-- ITS FALSE NEIGHBOUR: 'it returns false'. Refute it at one input. -/
def fnSkipSpaceStopsAtFirstNonSpaceWrong : ChangeSpec := { name := "fnSkipSpaceStopsAtFirstNonSpace", fn := fun _ => fun
  | [d1, d2, d3] => { results := [.lit (.bool false)], args := [d1, d2, d3] }
  | _ => none }
def FnSkipSpaceStopsAtFirstNonSpaceWrongFalsely : Prop := fnSkipSpaceStopsAtFirstNonSpaceRow.holds Try.pinned (OpenSpec.ofChange fnSkipSpaceStopsAtFirstNonSpaceWrong)

/-- 'zzlaws_root_b1.FnSkipSpaceIsIdempotent': WHATEVER THE INPUT: true; the input reads as it did. -/
def fnSkipSpaceIsIdempotentSpec : ChangeSpec := { name := "fnSkipSpaceIsIdempotent", fn := fun _ => fun
  | [d1, d2, d3] => { results := [.lit (.bool true)], args := [d1, d2, d3] }
  | _ => none }
def fnSkipSpaceIsIdempotentRow : OpenClaim := { program := "qxb6602030a", sum := "63e042ddbcf6b0c876f6eed03439a8409cce4f130c52dfcaaa1e55c40481f3be", func := "example.com/sigilchain/sigilchain/zzlaws_root_b1.FnSkipSpaceIsIdempotent", spec := "fnSkipSpaceIsIdempotent", apart := false }
def FnSkipSpaceIsIdempotentSaid : Prop := fnSkipSpaceIsIdempotentRow.holds Try.pinned (OpenSpec.ofChange fnSkipSpaceIsIdempotentSpec)

/-- ITS FALSE NEIGHBOUR: 'it returns false'. Refute it at one input. -/
def fnSkipSpaceIsIdempotentWrong : ChangeSpec := { name := "fnSkipSpaceIsIdempotent", fn := fun _ => fun
  | [d1, d2, d3] => { results := [.lit (.bool false)], args := [d1, d2, d3] }
  | _ => none }
def FnSkipSpaceIsIdempotentWrongFalsely : Prop := fnSkipSpaceIsIdempotentRow.holds Try.pinned (OpenSpec.ofChange fnSkipSpaceIsIdempotentWrong)

/-- 'zzlaws_root_b1.FnNextScriptConsumesCommonPrefix': WHATEVER THE INPUT: true; the input reads as it did. -/
def fnNextScriptConsumesCommonPrefixSpec : ChangeSpec := { name := "fnNextScriptConsumesCommonPrefix", fn := fun _ => fun
  | [d1, d2, d3, d4] => { results := [.lit (.bool true)], args := [d1, d2, d3, d4] }
  | _ => none }
def fnNextScriptConsumesCommonPrefixRow : OpenClaim := { program := "qxb6602030a", sum := "63e042ddbcf6b0c876f6eed03439a8409cce4f130c52dfcaaa1e55c40481f3be", func := "example.com/sigilchain/sigilchain/zzlaws_root_b1.FnNextScriptConsumesCommonPrefix", spec := "fnNextScriptConsumesCommonPrefix", apart := false }
def FnNextScriptConsumesCommonPrefixSaid : Prop := fnNextScriptConsumesCommonPrefixRow.holds Try.pinned (OpenSpec.ofChange fnNextScriptConsumesCommonPrefixSpec)

/-- ITS FALSE NEIGHBOUR: 'it returns false'. Refute it at one input. -/
def fnNextScriptConsumesCommonPrefixWrong : ChangeSpec := { name := "fnNextScriptConsumesCommonPrefix", fn := fun _ => fun
  | [d1, d2, d3, d4] => { results := [.lit (.bool false)], args := [d1, d2, d3, d4] }
  | _ => none }
def FnNextScriptConsumesCommonPrefixWrongFalsely : Prop := fnNextScriptConsumesCommonPrefixRow.holds Try.pinned (OpenSpec.ofChange fnNextScriptConsumesCommonPrefixWrong)

/-- 'zzlaws_root_b1.FnNextAfterSkipSpaceRefusesSpace': WHATEVER THE INPUT: true; the input reads as it did. -/
def fnNextAfterSkipSpaceRefusesSpaceSpec : ChangeSpec := { name := "fnNextAfterSkipSpaceRefusesSpace", fn := fun _ => fun
  | [d1, d2, d3, d4] => { results := [.lit (.bool true)], args := [d1, d2, d3, d4] }
  | _ => none }
def fnNextAfterSkipSpaceRefusesSpaceRow : OpenClaim := { program := "qxb6602030a", sum := "63e042ddbcf6b0c876f6eed03439a8409cce4f130c52dfcaaa1e55c40481f3be", func := "example.com/sigilchain/sigilchain/zzlaws_root_b1.FnNextAfterSkipSpaceRefusesSpace", spec := "fnNextAfterSkipSpaceRefusesSpace", apart := false }
def FnNextAfterSkipSpaceRefusesSpaceSaid : Prop := fnNextAfterSkipSpaceRefusesSpaceRow.holds Try.pinned (OpenSpec.ofChange fnNextAfterSkipSpaceRefusesSpaceSpec)

/-- ITS FALSE NEIGHBOUR: 'it returns false'. Refute it at one input. -/
def fnNextAfterSkipSpaceRefusesSpaceWrong : ChangeSpec := { name := "fnNextAfterSkipSpaceRefusesSpace", fn := fun _ => fun
  | [d1, d2, d3, d4] => { results := [.lit (.bool false)], args := [d1, d2, d3, d4] }
  | _ => none }
def FnNextAfterSkipSpaceRefusesSpaceWrongFalsely : Prop := fnNextAfterSkipSpaceRefusesSpaceRow.holds Try.pinned (OpenSpec.ofChange fnNextAfterSkipSpaceRefusesSpaceWrong)

end Rows
end Go.Proofs.Qxb6602030a
