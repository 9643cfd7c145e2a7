/-
  No cell of these rows narrows 'for every input' (looked for: loops, veiled, ifaces, maps, wideKeys, modest, calm, conditions, laid).
  DERIVED. THE GIVEN ROWS OF THIS SEAT. 5 by the template 'for every input the law returns true; each argument reads behind the call as it read before'; 0 by the template 'total and deterministic' (their statements: Qxb6601860aTotals.lean).
  GIVEN WITH THE SEED: the statements are not yours to turn. If you find one false, say at which input.
  Laid BY PROGRAM, IN A SANDBOX (cutbox-rows.mjs): the forced cells as the released guide's own fill.sh prints them over the translation 99ea4097c9f7f67b… (all of the seat's roots in one cut). By AI agents, Wed Nov 11 2026. No macro, syntax, notation, axiom, sorry.
-/
import Derived.Test.Qxb6601860aChecked
import GoSem.Claim
import GoSem.ClaimJoined
import GoSem.ClaimMapViews
import Derived.JoinedTies
import Derived.KernelRfl
namespace Go.Proofs.Qxb6601860a
/- THE CELL 'sum', in the pinned program and in every row, IS THE sha256 OF THE DUMP (.gsa) THAT Qxb6601860aProg.lean LOADS. Nothing in Lean hashes anything: it is a label: what it is worth is what the hold of that sum in a sandbox is worth. -/
noncomputable def Try.pinned : Pinned := { name := "qxb6601860a", sum := "99ea4097c9f7f67b32a56d0a588590cb4d74d93f2907ce5c6b69af0104b83bfc", checked := Try.checked }
namespace Rows
def none {H : Type} : Left H := { results := [], args := [] }

/-- 'zzlaws_internal_conflict_b1.FnForgetOrderFree': WHATEVER THE INPUT: true; the input reads as it did. -/
def fnForgetOrderFreeSpec : ChangeSpec := { name := "fnForgetOrderFree", fn := fun _ => fun
  | [d1, d2, d3, d4] => { results := [.lit (.bool true)], args := [d1, d2, d3, d4] }
  | _ => none }
def fnForgetOrderFreeRow : OpenClaim := { program := "qxb6601860a", sum := "99ea4097c9f7f67b32a56d0a588590cb4d74d93f2907ce5c6b69af0104b83bfc", func := "example.com/sakiyomi/sakiyomi/zzlaws_internal_conflict_b1.FnForgetOrderFree", spec := "fnForgetOrderFree", apart := false }
def FnForgetOrderFreeSaid : Prop := fnForgetOrderFreeRow.holds Try.pinned (OpenSpec.ofChange fnForgetOrderFreeSpec)

/-- ITS FALSE NEIGHBOUR: 'it returns false'. Refute it at one input. -/
def fnForgetOrderFreeWrong : ChangeSpec := { name := "fnForgetOrderFree", fn := fun _ => fun
  | [d1, d2, d3, d4] => { results := [.lit (.bool false)], args := [d1, d2, d3, d4] }
  | _ => none }
def FnForgetOrderFreeWrongFalsely : Prop := fnForgetOrderFreeRow.holds Try.pinned (OpenSpec.ofChange fnForgetOrderFreeWrong)

/-- 'zzlaws_internal_conflict_b1.FnPathFollowsParentsBackToStart': WHATEVER THE INPUT: true; the input reads as it did. -/
def fnPathFollowsParentsBackToStartSpec : ChangeSpec := { name := "fnPathFollowsParentsBackToStart", fn := fun _ => fun
  | [d1, d2, d3, d4] => { results := [.lit (.bool true)], args := [d1, d2, d3, d4] }
  | _ => none }
def fnPathFollowsParentsBackToStartRow : OpenClaim := { program := "qxb6601860a", sum := "99ea4097c9f7f67b32a56d0a588590cb4d74d93f2907ce5c6b69af0104b83bfc", func := "example.com/sakiyomi/sakiyomi/zzlaws_internal_conflict_b1.FnPathFollowsParentsBackToStart", spec := "fnPathFollowsParentsBackToStart", apart := false }
def FnPathFollowsParentsBackToStartSaid : Prop := fnPathFollowsParentsBackToStartRow.holds Try.pinned (OpenSpec.ofChange fnPathFollowsParentsBackToStartSpec)

/-- ITS FALSE NEIGHBOUR: 'it returns false'. Refute it at one input. -/
def fnPathFollowsParentsBackToStartWrong : ChangeSpec := { name := "fnPathFollowsParentsBackToStart", fn := fun _ => fun
  | [d1, d2, d3, d4] => { results := [.lit (.bool false)], args := [d1, d2, d3, d4] }
  | _ => none }
def FnPathFollowsParentsBackToStartWrongFalsely : Prop := fnPathFollowsParentsBackToStartRow.holds Try.pinned (OpenSpec.ofChange fnPathFollowsParentsBackToStartWrong)

/-- 'zzlaws_internal_conflict_b1.FnPathSplitsAtAWayPoint': WHATEVER THE INPUT: true; the input reads as it did. -/
def fnPathSplitsAtAWayPointSpec : ChangeSpec := { name := "fnPathSplitsAtAWayPoint", fn := fun _ => fun
  | [d1, d2, d3, d4, d5] => { results := [.lit (.bool true)], args := [d1, d2, d3, d4, d5] }
  | _ => none }
def fnPathSplitsAtAWayPointRow : OpenClaim := { program := "qxb6601860a", sum := "99ea4097c9f7f67b32a56d0a588590cb4d74d93f2907ce5c6b69af0104b83bfc", func := "example.com/sakiyomi/sakiyomi/zzlaws_internal_conflict_b1.FnPathSplitsAtAWayPoint", spec := "fnPathSplitsAtAWayPoint", apart := false }
def FnPathSplitsAtAWayPointSaid : Prop := fnPathSplitsAtAWayPointRow.holds Try.pinned (OpenSpec.ofChange fnPathSplitsAtAWayPointSpec)

/-- ITS FALSE NEIGHBOUR: 'it returns false'. Refute it at one input. -/
def fnPathSplitsAtAWayPointWrong : ChangeSpec := { name := "fnPathSplitsAtAWayPoint", fn := fun _ => fun
  | [d1, d2, d3, d4, d5] => { results := [.lit (.bool false)], args := [d1, d2, d3, d4, d5] }
  | _ => none }
def FnPathSplitsAtAWayPointWrongFalsely : Prop := fnPathSplitsAtAWayPointRow.holds Try.pinned (OpenSpec.ofChange fnPathSplitsAtAWayPointWrong)

/-- 'zzlaws_internal_conflict_b1.FnCycleIsTheLeastShortestCycle': WHATEVER THE INPUT: true; the input reads as it did. -/
def fnCycleIsTheLeastShortestCycleSpec : ChangeSpec := { name := "fnCycleIsTheLeastShortestCycle", fn := fun _ => fun
  | [d1, d2] => { results := [.lit (.bool true)], args := [d1, d2] }
  | _ => none }
def fnCycleIsTheLeastShortestCycleRow : OpenClaim := { program := "qxb6601860a", sum := "99ea4097c9f7f67b32a56d0a588590cb4d74d93f2907ce5c6b69af0104b83bfc", func := "example.com/sakiyomi/sakiyomi/zzlaws_internal_conflict_b1.FnCycleIsTheLeastShortestCycle", spec := "fnCycleIsTheLeastShortestCycle", unfollowed := true, recurses := true, apart := false }
def FnCycleIsTheLeastShortestCycleSaid : Prop := fnCycleIsTheLeastShortestCycleRow.holds Try.pinned (OpenSpec.ofChange fnCycleIsTheLeastShortestCycleSpec)

/-- ITS FALSE NEIGHBOUR: 'it returns false'. Refute it at one input. -/
def fnCycleIsTheLeastShortestCycleWrong : ChangeSpec := { name := "fnCycleIsTheLeastShortestCycle", fn := fun _ => fun
  | [d1, d2] => { results := [.lit (.bool false)], args := [d1, d2] }
  | _ => none }
def FnCycleIsTheLeastShortestCycleWrongFalsely : Prop := fnCycleIsTheLeastShortestCycleRow.holds Try.pinned (OpenSpec.ofChange fnCycleIsTheLeastShortestCycleWrong)

/-- 'zzlaws_internal_conflict_b1.FnCycleNilExactlyWhenAcyclic': WHATEVER THE INPUT: true; the input reads as it did. -/
def fnCycleNilExactlyWhenAcyclicSpec : ChangeSpec := { name := "fnCycleNilExactlyWhenAcyclic", fn := fun _ => fun
  | [d1, d2] => { results := [.lit (.bool true)], args := [d1, d2] }
  | _ => none }
def fnCycleNilExactlyWhenAcyclicRow : OpenClaim := { program := "qxb6601860a", sum := "99ea4097c9f7f67b32a56d0a588590cb4d74d93f2907ce5c6b69af0104b83bfc", func := "example.com/sakiyomi/sakiyomi/zzlaws_internal_conflict_b1.FnCycleNilExactlyWhenAcyclic", spec := "fnCycleNilExactlyWhenAcyclic", unfollowed := true, recurses := true, apart := false }
def FnCycleNilExactlyWhenAcyclicSaid : Prop := fnCycleNilExactlyWhenAcyclicRow.holds Try.pinned (OpenSpec.ofChange fnCycleNilExactlyWhenAcyclicSpec)

/-- ITS FALSE NEIGHBOUR: 'it returns false'. Refute it at one input. -/
def fnCycleNilExactlyWhenAcyclicWrong : ChangeSpec := { name := "fnCycleNilExactlyWhenAcyclic", fn := fun _ => fun
  | [d1, d2] => { results := [.lit (.bool false)], args := [d1, d2] }
  | _ => none }
def FnCycleNilExactlyWhenAcyclicWrongFalsely : Prop := fnCycleNilExactlyWhenAcyclicRow.holds Try.pinned (OpenSpec.ofChange fnCycleNilExactlyWhenAcyclicWrong)

end Rows
end Go.Proofs.Qxb6601860a
