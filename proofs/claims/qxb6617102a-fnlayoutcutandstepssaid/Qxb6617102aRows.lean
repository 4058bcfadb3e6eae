/-
  No cell of these rows narrows 'for every input' (looked for: loops, veiled, ifaces, maps, wideKeys, modest, calm, conditions, laid).
  DERIVED. THE GIVEN ROWS OF THIS SEAT. 5 by the template 'for every input the law returns true; each argument reads behind the call as it read before'; 0 by the template 'total and deterministic' (their statements: Qxb6617102aTotals.lean).
  GIVEN WITH THE SEED: the statements are not yours to turn. If you find one false, say at which input.
  Laid BY PROGRAM, IN A SANDBOX (cutbox-rows.mjs): the forced cells as the released guide's own fill.sh prints them over the translation d0d5ecee32646e95… (all of the seat's roots in one cut). By AI agents, Wed Nov 11 2026. No macro, syntax, notation, axiom, sorry.
-/
import Derived.Test.Qxb6617102aChecked
import GoSem.Claim
import GoSem.ClaimJoined
import GoSem.ClaimMapViews
import Derived.JoinedTies
import Derived.KernelRfl
namespace Go.Proofs.Qxb6617102a
/- THE CELL 'sum', in the pinned program and in every row, IS THE sha256 OF THE DUMP (.gsa) THAT Qxb6617102aProg.lean LOADS. Nothing in Lean hashes anything: it is a label: what it is worth is what the hold of that sum in a sandbox is worth. -/
noncomputable def Try.pinned : Pinned := { name := "qxb6617102a", sum := "d0d5ecee32646e9504e653788f5371f9ddb733f8060021fa7caf9fe3fe7392bd", checked := Try.checked }
namespace Rows
def none {H : Type} : Left H := { results := [], args := [] }

/-- 'zzlaws_pkg_metainfo_b1.FnLayoutCutAndSteps': WHATEVER THE INPUT: true; the input reads as it did. -/
def fnLayoutCutAndStepsSpec : ChangeSpec := { name := "fnLayoutCutAndSteps", fn := fun _ => fun
  | [d1, d2, d3, d4, d5, d6, d7, d8, d9, d10] => { results := [.lit (.bool true)], args := [d1, d2, d3, d4, d5, d6, d7, d8, d9, d10] }
  | _ => none }
def fnLayoutCutAndStepsRow : OpenClaim := { program := "qxb6617102a", sum := "d0d5ecee32646e9504e653788f5371f9ddb733f8060021fa7caf9fe3fe7392bd", func := "example.com/swarmline/swarmline/zzlaws_pkg_metainfo_b1.FnLayoutCutAndSteps", spec := "fnLayoutCutAndSteps", apart := false }
def FnLayoutCutAndStepsSaid : Prop := fnLayoutCutAndStepsRow.holds Try.pinned (OpenSpec.ofChange fnLayoutCutAndStepsSpec)

/-- ITS FALSE NEIGHBOUR: 'it returns false'. Refute it at one input. -/
def fnLayoutCutAndStepsWrong : ChangeSpec := { name := "fnLayoutCutAndSteps", fn := fun _ => fun
  | [d1, d2, d3, d4, d5, d6, d7, d8, d9, d10] => { results := [.lit (.bool false)], args := [d1, d2, d3, d4, d5, d6, d7, d8, d9, d10] }
  | _ => none }
def FnLayoutCutAndStepsWrongFalsely : Prop := fnLayoutCutAndStepsRow.holds Try.pinned (OpenSpec.ofChange fnLayoutCutAndStepsWrong)

/-- 'zzlaws_pkg_metainfo_b1.FnNumFilesInsertOne': WHATEVER THE INPUT: true; the input reads as it did. -/
def fnNumFilesInsertOneSpec : ChangeSpec := { name := "fnNumFilesInsertOne", fn := fun _ => fun
  | [d1, d2, d3, d4, d5, d6, d7, d8, d9, d10, d11, d12] => { results := [.lit (.bool true)], args := [d1, d2, d3, d4, d5, d6, d7, d8, d9, d10, d11, d12] }
  | _ => none }
def fnNumFilesInsertOneRow : OpenClaim := { program := "qxb6617102a", sum := "d0d5ecee32646e9504e653788f5371f9ddb733f8060021fa7caf9fe3fe7392bd", func := "example.com/swarmline/swarmline/zzlaws_pkg_metainfo_b1.FnNumFilesInsertOne", spec := "fnNumFilesInsertOne", apart := false }
def FnNumFilesInsertOneSaid : Prop := fnNumFilesInsertOneRow.holds Try.pinned (OpenSpec.ofChange fnNumFilesInsertOneSpec)

/-- ITS FALSE NEIGHBOUR: 'it returns false'. Refute it at one input. -/
def fnNumFilesInsertOneWrong : ChangeSpec := { name := "fnNumFilesInsertOne", fn := fun _ => fun
  | [d1, d2, d3, d4, d5, d6, d7, d8, d9, d10, d11, d12] => { results := [.lit (.bool false)], args := [d1, d2, d3, d4, d5, d6, d7, d8, d9, d10, d11, d12] }
  | _ => none }
def FnNumFilesInsertOneWrongFalsely : Prop := fnNumFilesInsertOneRow.holds Try.pinned (OpenSpec.ofChange fnNumFilesInsertOneWrong)

/-- 'zzlaws_pkg_metainfo_b1.FnNumFilesAgreesWithLayout': WHATEVER THE INPUT: true; the input reads as it did. -/
def fnNumFilesAgreesWithLayoutSpec : ChangeSpec := { name := "fnNumFilesAgreesWithLayout", fn := fun _ => fun
  | [d1, d2, d3, d4, d5, d6, d7, d8, d9] => { results := [.lit (.bool true)], args := [d1, d2, d3, d4, d5, d6, d7, d8, d9] }
  | _ => none }
def fnNumFilesAgreesWithLayoutRow : OpenClaim := { program := "qxb6617102a", sum := "d0d5ecee32646e9504e653788f5371f9ddb733f8060021fa7caf9fe3fe7392bd", func := "example.com/swarmline/swarmline/zzlaws_pkg_metainfo_b1.FnNumFilesAgreesWithLayout", spec := "fnNumFilesAgreesWithLayout", apart := false }
def FnNumFilesAgreesWithLayoutSaid : Prop := fnNumFilesAgreesWithLayoutRow.holds Try.pinned (OpenSpec.ofChange fnNumFilesAgreesWithLayoutSpec)

/-- ITS FALSE NEIGHBOUR: 'it returns false'. Refute it at one input. -/
def fnNumFilesAgreesWithLayoutWrong : ChangeSpec := { name := "fnNumFilesAgreesWithLayout", fn := fun _ => fun
  | [d1, d2, d3, d4, d5, d6, d7, d8, d9] => { results := [.lit (.bool false)], args := [d1, d2, d3, d4, d5, d6, d7, d8, d9] }
  | _ => none }
def FnNumFilesAgreesWithLayoutWrongFalsely : Prop := fnNumFilesAgreesWithLayoutRow.holds Try.pinned (OpenSpec.ofChange fnNumFilesAgreesWithLayoutWrong)

/-- 'zzlaws_pkg_metainfo_b1.FnComparePathsIsSlashOrder': WHATEVER THE INPUT: true; the input reads as it did. -/
def fnComparePathsIsSlashOrderSpec : ChangeSpec := { name := "fnComparePathsIsSlashOrder", fn := fun _ => fun
  | [d1, d2] => { results := [.lit (.bool true)], args := [d1, d2] }
  | _ => none }
def fnComparePathsIsSlashOrderRow : OpenClaim := { program := "qxb6617102a", sum := "d0d5ecee32646e9504e653788f5371f9ddb733f8060021fa7caf9fe3fe7392bd", func := "example.com/swarmline/swarmline/zzlaws_pkg_metainfo_b1.FnComparePathsIsSlashOrder", spec := "fnComparePathsIsSlashOrder", inPlace := ["internal/bytealg.abigen_runtime_cmpstring"], apart := false }
def FnComparePathsIsSlashOrderSaid : Prop := fnComparePathsIsSlashOrderRow.holds Try.pinned (OpenSpec.ofChange fnComparePathsIsSlashOrderSpec)

/-- ITS FALSE NEIGHBOUR: 'it returns false'. Refute it at one input. -/
def fnComparePathsIsSlashOrderWrong : ChangeSpec := { name := "fnComparePathsIsSlashOrder", fn := fun _ => fun
  | [d1, d2] => { results := [.lit (.bool false)], args := [d1, d2] }
  | _ => none }
def FnComparePathsIsSlashOrderWrongFalsely : Prop := fnComparePathsIsSlashOrderRow.holds Try.pinned (OpenSpec.ofChange fnComparePathsIsSlashOrderWrong)

/-- 'zzlaws_pkg_metainfo_b1.FnComparePathsSubtreeContiguous': WHATEVER THE INPUT: true; the input reads as it did. -/
def fnComparePathsSubtreeContiguousSpec : ChangeSpec := { name := "fnComparePathsSubtreeContiguous", fn := fun _ => fun
  | [d1, d2, d3] => { results := [.lit (.bool true)], args := [d1, d2, d3] }
  | _ => none }
def fnComparePathsSubtreeContiguousRow : OpenClaim := { program := "qxb6617102a", sum := "d0d5ecee32646e9504e653788f5371f9ddb733f8060021fa7caf9fe3fe7392bd", func := "example.com/swarmline/swarmline/zzlaws_pkg_metainfo_b1.FnComparePathsSubtreeContiguous", spec := "fnComparePathsSubtreeContiguous", inPlace := ["internal/bytealg.abigen_runtime_cmpstring"], apart := false }
def FnComparePathsSubtreeContiguousSaid : Prop := fnComparePathsSubtreeContiguousRow.holds Try.pinned (OpenSpec.ofChange fnComparePathsSubtreeContiguousSpec)

/-- ITS FALSE NEIGHBOUR: 'it returns false'. Refute it at one input. -/
def fnComparePathsSubtreeContiguousWrong : ChangeSpec := { name := "fnComparePathsSubtreeContiguous", fn := fun _ => fun
  | [d1, d2, d3] => { results := [.lit (.bool false)], args := [d1, d2, d3] }
  | _ => none }
def FnComparePathsSubtreeContiguousWrongFalsely : Prop := fnComparePathsSubtreeContiguousRow.holds Try.pinned (OpenSpec.ofChange fnComparePathsSubtreeContiguousWrong)

end Rows
end Go.Proofs.Qxb6617102a
