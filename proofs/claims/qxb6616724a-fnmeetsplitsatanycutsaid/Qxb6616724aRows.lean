/-
  No cell of these rows narrows 'for every input' (looked for: loops, veiled, ifaces, maps, wideKeys, modest, calm, conditions, laid).
  DERIVED. THE GIVEN ROWS OF THIS SEAT. 2 by the template 'for every input the law returns true; each argument reads behind the call as it read before'; 0 by the template 'total and deterministic' (their statements: Qxb6616724aTotals.lean).
  GIVEN WITH THE SEED: the statements are not yours to turn. If you find one false, say at which input.
  Laid BY PROGRAM, IN A SANDBOX (cutbox-rows.mjs): the forced cells as the released guide's own fill.sh prints them over the translation ebc88847677da1a9… (all of the seat's roots in one cut). By AI agents, Wed Nov 11 2026. No macro, syntax, notation, axiom, sorry.
-/
import Derived.Test.Qxb6616724aChecked
import GoSem.Claim
import GoSem.ClaimJoined
import GoSem.ClaimMapViews
import Derived.JoinedTies
import Derived.KernelRfl
namespace Go.Proofs.Qxb6616724a
/- THE CELL 'sum', in the pinned program and in every row, IS THE sha256 OF THE DUMP (.gsa) THAT Qxb6616724aProg.lean LOADS. Nothing in Lean hashes anything: it is a label: what it is worth is what the hold of that sum in a sandbox is worth. -/
noncomputable def Try.pinned : Pinned := { name := "qxb6616724a", sum := "ebc88847677da1a9f977ffa5b97aad04718d306e582ce4415ddc9f06484c3b7a", checked := Try.checked }
namespace Rows
def none {H : Type} : Left H := { results := [], args := [] }

/-- 'zzlaws_internal_git_b1.FnMeetIsAnyPathOfOneSideMet': WHATEVER THE INPUT: true; the input reads as it did. -/
def fnMeetIsAnyPathOfOneSideMetSpec : ChangeSpec := { name := "fnMeetIsAnyPathOfOneSideMet", fn := fun _ => fun
  | [d1, d2, d3, d4, d5, d6] => { results := [.lit (.bool true)], args := [d1, d2, d3, d4, d5, d6] }
  | _ => none }
def fnMeetIsAnyPathOfOneSideMetRow : OpenClaim := { program := "qxb6616724a", sum := "ebc88847677da1a9f977ffa5b97aad04718d306e582ce4415ddc9f06484c3b7a", func := "example.com/handfast/handfast/zzlaws_internal_git_b1.FnMeetIsAnyPathOfOneSideMet", spec := "fnMeetIsAnyPathOfOneSideMet", unfollowed := true, recurses := true, apart := false }
def FnMeetIsAnyPathOfOneSideMetSaid : Prop := fnMeetIsAnyPathOfOneSideMetRow.holds Try.pinned (OpenSpec.ofChange fnMeetIsAnyPathOfOneSideMetSpec)

/-- ITS FALSE NEIGHBOUR: 'it returns false'. Refute it at one input. -/
def fnMeetIsAnyPathOfOneSideMetWrong : ChangeSpec := { name := "fnMeetIsAnyPathOfOneSideMet", fn := fun _ => fun
  | [d1, d2, d3, d4, d5, d6] => { results := [.lit (.bool false)], args := [d1, d2, d3, d4, d5, d6] }
  | _ => none }
def FnMeetIsAnyPathOfOneSideMetWrongFalsely : Prop := fnMeetIsAnyPathOfOneSideMetRow.holds Try.pinned (OpenSpec.ofChange fnMeetIsAnyPathOfOneSideMetWrong)

/-- 'zzlaws_internal_git_b1.FnMeetSplitsAtAnyCut': WHATEVER THE INPUT: true; the input reads as it did. -/
def fnMeetSplitsAtAnyCutSpec : ChangeSpec := { name := "fnMeetSplitsAtAnyCut", fn := fun _ => fun
  | [d1, d2, d3, d4, d5, d6, d7, d8, d9] => { results := [.lit (.bool true)], args := [d1, d2, d3, d4, d5, d6, d7, d8, d9] }
  | _ => none }
def fnMeetSplitsAtAnyCutRow : OpenClaim := { program := "qxb6616724a", sum := "ebc88847677da1a9f977ffa5b97aad04718d306e582ce4415ddc9f06484c3b7a", func := "example.com/handfast/handfast/zzlaws_internal_git_b1.FnMeetSplitsAtAnyCut", spec := "fnMeetSplitsAtAnyCut", unfollowed := true, recurses := true, apart := false }
def FnMeetSplitsAtAnyCutSaid : Prop := fnMeetSplitsAtAnyCutRow.holds Try.pinned (OpenSpec.ofChange fnMeetSplitsAtAnyCutSpec)

/-- ITS FALSE NEIGHBOUR: 'it returns false'. Refute it at one input. -/
def fnMeetSplitsAtAnyCutWrong : ChangeSpec := { name := "fnMeetSplitsAtAnyCut", fn := fun _ => fun
  | [d1, d2, d3, d4, d5, d6, d7, d8, d9] => { results := [.lit (.bool false)], args := [d1, d2, d3, d4, d5, d6, d7, d8, d9] }
  | _ => none }
def FnMeetSplitsAtAnyCutWrongFalsely : Prop := fnMeetSplitsAtAnyCutRow.holds Try.pinned (OpenSpec.ofChange fnMeetSplitsAtAnyCutWrong)

end Rows
end Go.Proofs.Qxb6616724a
