/-
  No cell of these rows narrows 'for every input' (looked for: loops, veiled, ifaces, maps, wideKeys, modest, calm, conditions, laid).
  DERIVED. THE GIVEN ROWS OF THIS SEAT. 3 by the template 'for every input the law returns true; each argument reads behind the call as it read before'; 0 by the template 'total and deterministic' (their statements: Qxb6602560aTotals.lean).
  GIVEN WITH THE SEED: the statements are not yours to turn. If you find one false, say at which input.
  Laid BY PROGRAM, IN A SANDBOX (cutbox-rows.mjs): the forced cells as the released guide's own fill.sh prints them over the translation 07198b777c31b68b… (all of the seat's roots in one cut). By AI agents, Wed Nov 11 2026. No macro, syntax, notation, axiom, sorry.
-/
import Derived.Test.Qxb6602560aChecked
import GoSem.Claim
import GoSem.ClaimJoined
import GoSem.ClaimMapViews
import Derived.JoinedTies
import Derived.KernelRfl
namespace Go.Proofs.Qxb6602560a
/- THE CELL 'sum', in the pinned program and in every row, IS THE sha256 OF THE DUMP (.gsa) THAT Qxb6602560aProg.lean LOADS. Nothing in Lean hashes anything: it is a label: what it is worth is what the hold of that sum in a sandbox is worth. -/
noncomputable def Try.pinned : Pinned := { name := "qxb6602560a", sum := "07198b777c31b68bf1e38310d83917b1e3ef1598cd300e269f496e734d25cb12", checked := Try.checked }
namespace Rows
def none {H : Type} : Left H := { results := [], args := [] }

/-- 'zzlaws_internal_media_b1.FnScaleAcrossAveragesWhatEachSampleCovers': WHATEVER THE INPUT: true; the input reads as it did. -/
def fnScaleAcrossAveragesWhatEachSampleCoversSpec : ChangeSpec := { name := "fnScaleAcrossAveragesWhatEachSampleCovers", fn := fun _ => fun
  | [d1, d2] => { results := [.lit (.bool true)], args := [d1, d2] }
  | _ => none }
def fnScaleAcrossAveragesWhatEachSampleCoversRow : OpenClaim := { program := "qxb6602560a", sum := "07198b777c31b68bf1e38310d83917b1e3ef1598cd300e269f496e734d25cb12", func := "example.com/hatchway/hatchway/zzlaws_internal_media_b1.FnScaleAcrossAveragesWhatEachSampleCovers", spec := "fnScaleAcrossAveragesWhatEachSampleCovers", apart := false }
def FnScaleAcrossAveragesWhatEachSampleCoversSaid : Prop := fnScaleAcrossAveragesWhatEachSampleCoversRow.holds Try.pinned (OpenSpec.ofChange fnScaleAcrossAveragesWhatEachSampleCoversSpec)

/-- ITS FALSE NEIGHBOUR: 'it returns false'. Refute it at one input. -/
def fnScaleAcrossAveragesWhatEachSampleCoversWrong : ChangeSpec := { name := "fnScaleAcrossAveragesWhatEachSampleCovers", fn := fun _ => fun
  | [d1, d2] => { results := [.lit (.bool false)], args := [d1, d2] }
  | _ => none }
def FnScaleAcrossAveragesWhatEachSampleCoversWrongFalsely : Prop := fnScaleAcrossAveragesWhatEachSampleCoversRow.holds Try.pinned (OpenSpec.ofChange fnScaleAcrossAveragesWhatEachSampleCoversWrong)

/-- 'zzlaws_internal_media_b1.FnScaleAcrossRepeatsEachSampleOnWholeUpscale': WHATEVER THE INPUT: true; the input reads as it did. -/
def fnScaleAcrossRepeatsEachSampleOnWholeUpscaleSpec : ChangeSpec := { name := "fnScaleAcrossRepeatsEachSampleOnWholeUpscale", fn := fun _ => fun
  | [d1, d2] => { results := [.lit (.bool true)], args := [d1, d2] }
  | _ => none }
def fnScaleAcrossRepeatsEachSampleOnWholeUpscaleRow : OpenClaim := { program := "qxb6602560a", sum := "07198b777c31b68bf1e38310d83917b1e3ef1598cd300e269f496e734d25cb12", func := "example.com/hatchway/hatchway/zzlaws_internal_media_b1.FnScaleAcrossRepeatsEachSampleOnWholeUpscale", spec := "fnScaleAcrossRepeatsEachSampleOnWholeUpscale", apart := false }
def FnScaleAcrossRepeatsEachSampleOnWholeUpscaleSaid : Prop := fnScaleAcrossRepeatsEachSampleOnWholeUpscaleRow.holds Try.pinned (OpenSpec.ofChange fnScaleAcrossRepeatsEachSampleOnWholeUpscaleSpec)

/-- ITS FALSE NEIGHBOUR: 'it returns false'. Refute it at one input. -/
def fnScaleAcrossRepeatsEachSampleOnWholeUpscaleWrong : ChangeSpec := { name := "fnScaleAcrossRepeatsEachSampleOnWholeUpscale", fn := fun _ => fun
  | [d1, d2] => { results := [.lit (.bool false)], args := [d1, d2] }
  | _ => none }
def FnScaleAcrossRepeatsEachSampleOnWholeUpscaleWrongFalsely : Prop := fnScaleAcrossRepeatsEachSampleOnWholeUpscaleRow.holds Try.pinned (OpenSpec.ofChange fnScaleAcrossRepeatsEachSampleOnWholeUpscaleWrong)

/-- 'zzlaws_internal_media_b1.FnNewScalerCoversTileEachAxis': WHATEVER THE INPUT: true; the input reads as it did. -/
def fnNewScalerCoversTileEachAxisSpec : ChangeSpec := { name := "fnNewScalerCoversTileEachAxis", fn := fun _ => fun
  | [d1, d2, d3, d4, d5, d6, d7] => { results := [.lit (.bool true)], args := [d1, d2, d3, d4, d5, d6, d7] }
  | _ => none }
def fnNewScalerCoversTileEachAxisRow : OpenClaim := { program := "qxb6602560a", sum := "07198b777c31b68bf1e38310d83917b1e3ef1598cd300e269f496e734d25cb12", func := "example.com/hatchway/hatchway/zzlaws_internal_media_b1.FnNewScalerCoversTileEachAxis", spec := "fnNewScalerCoversTileEachAxis", unfollowed := true, recurses := true, apart := false }
def FnNewScalerCoversTileEachAxisSaid : Prop := fnNewScalerCoversTileEachAxisRow.holds Try.pinned (OpenSpec.ofChange fnNewScalerCoversTileEachAxisSpec)

/-- ITS FALSE NEIGHBOUR: 'it returns false'. Refute it at one input. -/
def fnNewScalerCoversTileEachAxisWrong : ChangeSpec := { name := "fnNewScalerCoversTileEachAxis", fn := fun _ => fun
  | [d1, d2, d3, d4, d5, d6, d7] => { results := [.lit (.bool false)], args := [d1, d2, d3, d4, d5, d6, d7] }
  | _ => none }
def FnNewScalerCoversTileEachAxisWrongFalsely : Prop := fnNewScalerCoversTileEachAxisRow.holds Try.pinned (OpenSpec.ofChange fnNewScalerCoversTileEachAxisWrong)

end Rows
end Go.Proofs.Qxb6602560a
