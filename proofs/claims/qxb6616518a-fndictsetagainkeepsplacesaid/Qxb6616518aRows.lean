/-
  No cell of these rows narrows 'for every input' (looked for: loops, veiled, ifaces, maps, wideKeys, modest, calm, conditions, laid).
  DERIVED. THE GIVEN ROWS OF THIS SEAT. 4 by the template 'for every input the law returns true; each argument reads behind the call as it read before'; 0 by the template 'total and deterministic' (their statements: Qxb6616518aTotals.lean).
  GIVEN WITH THE SEED: the statements are not yours to turn. If you find one false, say at which input.
  Laid BY PROGRAM, IN A SANDBOX (cutbox-rows.mjs): the forced cells as the released guide's own fill.sh prints them over the translation 4bc22d5fdbdd83d0… (all of the seat's roots in one cut). By AI agents, Wed Nov 11 2026. No macro, syntax, notation, axiom, sorry.
-/
import Derived.Test.Qxb6616518aChecked
import GoSem.Claim
import GoSem.ClaimJoined
import GoSem.ClaimMapViews
import Derived.JoinedTies
import Derived.KernelRfl
namespace Go.Proofs.Qxb6616518a
/- THE CELL 'sum', in the pinned program and in every row, IS THE sha256 OF THE DUMP (.gsa) THAT Qxb6616518aProg.lean LOADS. Nothing in Lean hashes anything: it is a label: what it is worth is what the hold of that sum in a sandbox is worth. -/
noncomputable def Try.pinned : Pinned := { name := "qxb6616518a", sum := "4bc22d5fdbdd83d0b74775b4789920a42e89b61740287893097812350d702a3c", checked := Try.checked }
namespace Rows
def none {H : Type} : Left H := { results := [], args := [] }

/-- 'zzlaws_chattemplate_b1.FnDictSetAgainKeepsPlace': WHATEVER THE INPUT: true; the input reads as it did. -/
def fnDictSetAgainKeepsPlaceSpec : ChangeSpec := { name := "fnDictSetAgainKeepsPlace", fn := fun _ => fun
  | [d] => { results := [.lit (.bool true)], args := [d] }
  | _ => none }
def fnDictSetAgainKeepsPlaceRow : OpenClaim := { program := "qxb6616518a", sum := "4bc22d5fdbdd83d0b74775b4789920a42e89b61740287893097812350d702a3c", func := "example.com/warmpath/warmpath/zzlaws_chattemplate_b1.FnDictSetAgainKeepsPlace", spec := "fnDictSetAgainKeepsPlace", apart := false }
def FnDictSetAgainKeepsPlaceSaid : Prop := fnDictSetAgainKeepsPlaceRow.holds Try.pinned (OpenSpec.ofChange fnDictSetAgainKeepsPlaceSpec)

/-- ITS FALSE NEIGHBOUR: 'it returns false'. Refute it at one input. -/
def fnDictSetAgainKeepsPlaceWrong : ChangeSpec := { name := "fnDictSetAgainKeepsPlace", fn := fun _ => fun
  | [d] => { results := [.lit (.bool false)], args := [d] }
  | _ => none }
def FnDictSetAgainKeepsPlaceWrongFalsely : Prop := fnDictSetAgainKeepsPlaceRow.holds Try.pinned (OpenSpec.ofChange fnDictSetAgainKeepsPlaceWrong)

/-- 'zzlaws_chattemplate_b1.FnDictKeysGrowAtAnyCut': WHATEVER THE INPUT: true; the input reads as it did. -/
def fnDictKeysGrowAtAnyCutSpec : ChangeSpec := { name := "fnDictKeysGrowAtAnyCut", fn := fun _ => fun
  | [d1, d2] => { results := [.lit (.bool true)], args := [d1, d2] }
  | _ => none }
def fnDictKeysGrowAtAnyCutRow : OpenClaim := { program := "qxb6616518a", sum := "4bc22d5fdbdd83d0b74775b4789920a42e89b61740287893097812350d702a3c", func := "example.com/warmpath/warmpath/zzlaws_chattemplate_b1.FnDictKeysGrowAtAnyCut", spec := "fnDictKeysGrowAtAnyCut", apart := false }
def FnDictKeysGrowAtAnyCutSaid : Prop := fnDictKeysGrowAtAnyCutRow.holds Try.pinned (OpenSpec.ofChange fnDictKeysGrowAtAnyCutSpec)

/-- ITS FALSE NEIGHBOUR: 'it returns false'. Refute it at one input. -/
def fnDictKeysGrowAtAnyCutWrong : ChangeSpec := { name := "fnDictKeysGrowAtAnyCut", fn := fun _ => fun
  | [d1, d2] => { results := [.lit (.bool false)], args := [d1, d2] }
  | _ => none }
def FnDictKeysGrowAtAnyCutWrongFalsely : Prop := fnDictKeysGrowAtAnyCutRow.holds Try.pinned (OpenSpec.ofChange fnDictKeysGrowAtAnyCutWrong)

/-- 'zzlaws_chattemplate_b1.FnDictKeysReplayRoundTrip': WHATEVER THE INPUT: true; the input reads as it did. -/
def fnDictKeysReplayRoundTripSpec : ChangeSpec := { name := "fnDictKeysReplayRoundTrip", fn := fun _ => fun
  | [d] => { results := [.lit (.bool true)], args := [d] }
  | _ => none }
def fnDictKeysReplayRoundTripRow : OpenClaim := { program := "qxb6616518a", sum := "4bc22d5fdbdd83d0b74775b4789920a42e89b61740287893097812350d702a3c", func := "example.com/warmpath/warmpath/zzlaws_chattemplate_b1.FnDictKeysReplayRoundTrip", spec := "fnDictKeysReplayRoundTrip", apart := false }
def FnDictKeysReplayRoundTripSaid : Prop := fnDictKeysReplayRoundTripRow.holds Try.pinned (OpenSpec.ofChange fnDictKeysReplayRoundTripSpec)

/-- ITS FALSE NEIGHBOUR: 'it returns false'. Refute it at one input. -/
def fnDictKeysReplayRoundTripWrong : ChangeSpec := { name := "fnDictKeysReplayRoundTrip", fn := fun _ => fun
  | [d] => { results := [.lit (.bool false)], args := [d] }
  | _ => none }
def FnDictKeysReplayRoundTripWrongFalsely : Prop := fnDictKeysReplayRoundTripRow.holds Try.pinned (OpenSpec.ofChange fnDictKeysReplayRoundTripWrong)

/-- 'zzlaws_chattemplate_b1.FnDictSetScriptMatchesModel': WHATEVER THE INPUT: true; the input reads as it did. -/
def fnDictSetScriptMatchesModelSpec : ChangeSpec := { name := "fnDictSetScriptMatchesModel", fn := fun _ => fun
  | [d1, d2] => { results := [.lit (.bool true)], args := [d1, d2] }
  | _ => none }
def fnDictSetScriptMatchesModelRow : OpenClaim := { program := "qxb6616518a", sum := "4bc22d5fdbdd83d0b74775b4789920a42e89b61740287893097812350d702a3c", func := "example.com/warmpath/warmpath/zzlaws_chattemplate_b1.FnDictSetScriptMatchesModel", spec := "fnDictSetScriptMatchesModel", apart := false }
def FnDictSetScriptMatchesModelSaid : Prop := fnDictSetScriptMatchesModelRow.holds Try.pinned (OpenSpec.ofChange fnDictSetScriptMatchesModelSpec)

/-- ITS FALSE NEIGHBOUR: 'it returns false'. Refute it at one input. -/
def fnDictSetScriptMatchesModelWrong : ChangeSpec := { name := "fnDictSetScriptMatchesModel", fn := fun _ => fun
  | [d1, d2] => { results := [.lit (.bool false)], args := [d1, d2] }
  | _ => none }
def FnDictSetScriptMatchesModelWrongFalsely : Prop := fnDictSetScriptMatchesModelRow.holds Try.pinned (OpenSpec.ofChange fnDictSetScriptMatchesModelWrong)

end Rows
end Go.Proofs.Qxb6616518a
