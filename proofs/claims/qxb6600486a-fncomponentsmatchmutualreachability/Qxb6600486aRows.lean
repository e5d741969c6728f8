/-
  No cell of these rows narrows 'for every input' (looked for: loops, veiled, ifaces, maps, wideKeys, modest, calm, conditions, laid).
  DERIVED. THE GIVEN ROWS OF THIS SEAT. 5 by the template 'for every input the law returns true; each argument reads behind the call as it read before'; 0 by the template 'total and deterministic' (their statements: Qxb6600486aTotals.lean).
  GIVEN WITH THE SEED: the statements are not yours to turn. If you find one false, say at which input.
  Laid BY PROGRAM, IN A SANDBOX (cutbox-rows.mjs): the forced cells as the released guide's own fill.sh prints them over the translation ca6c8670d3751432… (all of the seat's roots in one cut). By AI agents, Wed Nov 11 2026. No macro, syntax, notation, axiom, sorry.
-/
import Derived.Test.Qxb6600486aChecked
import GoSem.Claim
import GoSem.ClaimJoined
import GoSem.ClaimMapViews
import Derived.JoinedTies
import Derived.KernelRfl
namespace Go.Proofs.Qxb6600486a
/- THE CELL 'sum', in the pinned program and in every row, IS THE sha256 OF THE DUMP (.gsa) THAT Qxb6600486aProg.lean LOADS. Nothing in Lean hashes anything: it is a label: what it is worth is what the hold of that sum in a sandbox is worth. -/
noncomputable def Try.pinned : Pinned := { name := "qxb6600486a", sum := "ca6c8670d37514322ba18e79cffb29678e985821f5f676aa58695135d6ed6f57", checked := Try.checked }
namespace Rows
def none {H : Type} : Left H := { results := [], args := [] }

/-- 'zzlaws_internal_verify_b1.FnComponentsMatchMutualReachability': WHATEVER THE INPUT: true; the input reads as it did. -/
def fnComponentsMatchMutualReachabilitySpec : ChangeSpec := { name := "fnComponentsMatchMutualReachability", fn := fun _ => fun
  | [d1, d2] => { results := [.lit (.bool true)], args := [d1, d2] }
  | _ => none }
def fnComponentsMatchMutualReachabilityRow : OpenClaim := { program := "qxb6600486a", sum := "ca6c8670d37514322ba18e79cffb29678e985821f5f676aa58695135d6ed6f57", func := "example.com/nearfield/nearfield/zzlaws_internal_verify_b1.FnComponentsMatchMutualReachability", spec := "fnComponentsMatchMutualReachability", unfollowed := true, recurses := true, apart := false }
def FnComponentsMatchMutualReachabilitySaid : Prop := fnComponentsMatchMutualReachabilityRow.holds Try.pinned (OpenSpec.ofChange fnComponentsMatchMutualReachabilitySpec)

/-- ITS FALSE NEIGHBOUR: 'it returns false'. Refute it at one input. -/
def fnComponentsMatchMutualReachabilityWrong : ChangeSpec := { name := "fnComponentsMatchMutualReachability", fn := fun _ => fun
  | [d1, d2] => { results := [.lit (.bool false)], args := [d1, d2] }
  | _ => none }
def FnComponentsMatchMutualReachabilityWrongFalsely : Prop := fnComponentsMatchMutualReachabilityRow.holds Try.pinned (OpenSpec.ofChange fnComponentsMatchMutualReachabilityWrong)

/-- 'zzlaws_internal_verify_b1.FnComponentsSameOnTransposedGraph': WHATEVER THE INPUT: true; the input reads as it did. -/
def fnComponentsSameOnTransposedGraphSpec : ChangeSpec := { name := "fnComponentsSameOnTransposedGraph", fn := fun _ => fun
  | [d1, d2] => { results := [.lit (.bool true)], args := [d1, d2] }
  | _ => none }
def fnComponentsSameOnTransposedGraphRow : OpenClaim := { program := "qxb6600486a", sum := "ca6c8670d37514322ba18e79cffb29678e985821f5f676aa58695135d6ed6f57", func := "example.com/nearfield/nearfield/zzlaws_internal_verify_b1.FnComponentsSameOnTransposedGraph", spec := "fnComponentsSameOnTransposedGraph", unfollowed := true, recurses := true, apart := false }
def FnComponentsSameOnTransposedGraphSaid : Prop := fnComponentsSameOnTransposedGraphRow.holds Try.pinned (OpenSpec.ofChange fnComponentsSameOnTransposedGraphSpec)

/-- ITS FALSE NEIGHBOUR: 'it returns false'. Refute it at one input. -/
def fnComponentsSameOnTransposedGraphWrong : ChangeSpec := { name := "fnComponentsSameOnTransposedGraph", fn := fun _ => fun
  | [d1, d2] => { results := [.lit (.bool false)], args := [d1, d2] }
  | _ => none }
def FnComponentsSameOnTransposedGraphWrongFalsely : Prop := fnComponentsSameOnTransposedGraphRow.holds Try.pinned (OpenSpec.ofChange fnComponentsSameOnTransposedGraphWrong)

/-- 'zzlaws_internal_verify_b1.FnShortestCycleIsAShortestCycleThroughTheLeastNode': WHATEVER THE INPUT: true; the input reads as it did. -/
def fnShortestCycleIsAShortestCycleThroughTheLeastNodeSpec : ChangeSpec := { name := "fnShortestCycleIsAShortestCycleThroughTheLeastNode", fn := fun _ => fun
  | [d1, d2] => { results := [.lit (.bool true)], args := [d1, d2] }
  | _ => none }
def fnShortestCycleIsAShortestCycleThroughTheLeastNodeRow : OpenClaim := { program := "qxb6600486a", sum := "ca6c8670d37514322ba18e79cffb29678e985821f5f676aa58695135d6ed6f57", func := "example.com/nearfield/nearfield/zzlaws_internal_verify_b1.FnShortestCycleIsAShortestCycleThroughTheLeastNode", spec := "fnShortestCycleIsAShortestCycleThroughTheLeastNode", apart := false }
def FnShortestCycleIsAShortestCycleThroughTheLeastNodeSaid : Prop := fnShortestCycleIsAShortestCycleThroughTheLeastNodeRow.holds Try.pinned (OpenSpec.ofChange fnShortestCycleIsAShortestCycleThroughTheLeastNodeSpec)

/-- ITS FALSE NEIGHBOUR: 'it returns false'. Refute it at one input. -/
def fnShortestCycleIsAShortestCycleThroughTheLeastNodeWrong : ChangeSpec := { name := "fnShortestCycleIsAShortestCycleThroughTheLeastNode", fn := fun _ => fun
  | [d1, d2] => { results := [.lit (.bool false)], args := [d1, d2] }
  | _ => none }
def FnShortestCycleIsAShortestCycleThroughTheLeastNodeWrongFalsely : Prop := fnShortestCycleIsAShortestCycleThroughTheLeastNodeRow.holds Try.pinned (OpenSpec.ofChange fnShortestCycleIsAShortestCycleThroughTheLeastNodeWrong)

/-- 'zzlaws_internal_verify_b1.FnShortestCycleOfARingIsItsRotationFromItsLeastNode': WHATEVER THE INPUT: true; the input reads as it did. -/
def fnShortestCycleOfARingIsItsRotationFromItsLeastNodeSpec : ChangeSpec := { name := "fnShortestCycleOfARingIsItsRotationFromItsLeastNode", fn := fun _ => fun
  | [d1, d2, d3, d4] => { results := [.lit (.bool true)], args := [d1, d2, d3, d4] }
  | _ => none }
def fnShortestCycleOfARingIsItsRotationFromItsLeastNodeRow : OpenClaim := { program := "qxb6600486a", sum := "ca6c8670d37514322ba18e79cffb29678e985821f5f676aa58695135d6ed6f57", func := "example.com/nearfield/nearfield/zzlaws_internal_verify_b1.FnShortestCycleOfARingIsItsRotationFromItsLeastNode", spec := "fnShortestCycleOfARingIsItsRotationFromItsLeastNode", apart := false }
def FnShortestCycleOfARingIsItsRotationFromItsLeastNodeSaid : Prop := fnShortestCycleOfARingIsItsRotationFromItsLeastNodeRow.holds Try.pinned (OpenSpec.ofChange fnShortestCycleOfARingIsItsRotationFromItsLeastNodeSpec)

/-- ITS FALSE NEIGHBOUR: 'it returns false'. Refute it at one input. -/
def fnShortestCycleOfARingIsItsRotationFromItsLeastNodeWrong : ChangeSpec := { name := "fnShortestCycleOfARingIsItsRotationFromItsLeastNode", fn := fun _ => fun
  | [d1, d2, d3, d4] => { results := [.lit (.bool false)], args := [d1, d2, d3, d4] }
  | _ => none }
def FnShortestCycleOfARingIsItsRotationFromItsLeastNodeWrongFalsely : Prop := fnShortestCycleOfARingIsItsRotationFromItsLeastNodeRow.holds Try.pinned (OpenSpec.ofChange fnShortestCycleOfARingIsItsRotationFromItsLeastNodeWrong)

/-- 'zzlaws_internal_verify_b1.FnReportAddCountsEveryViolationAndListsTheFirstHundred': WHATEVER THE INPUT: true; the input reads as it did. -/
def fnReportAddCountsEveryViolationAndListsTheFirstHundredSpec : ChangeSpec := { name := "fnReportAddCountsEveryViolationAndListsTheFirstHundred", fn := fun _ => fun
  | [d1, d2, d3, d4, d5, d6, d7, d8] => { results := [.lit (.bool true)], args := [d1, d2, d3, d4, d5, d6, d7, d8] }
  | _ => none }
def fnReportAddCountsEveryViolationAndListsTheFirstHundredRow : OpenClaim := { program := "qxb6600486a", sum := "ca6c8670d37514322ba18e79cffb29678e985821f5f676aa58695135d6ed6f57", func := "example.com/nearfield/nearfield/zzlaws_internal_verify_b1.FnReportAddCountsEveryViolationAndListsTheFirstHundred", spec := "fnReportAddCountsEveryViolationAndListsTheFirstHundred", apart := false }
def FnReportAddCountsEveryViolationAndListsTheFirstHundredSaid : Prop := fnReportAddCountsEveryViolationAndListsTheFirstHundredRow.holds Try.pinned (OpenSpec.ofChange fnReportAddCountsEveryViolationAndListsTheFirstHundredSpec)

/-- ITS FALSE NEIGHBOUR: 'it returns false'. Refute it at one input. -/
def fnReportAddCountsEveryViolationAndListsTheFirstHundredWrong : ChangeSpec := { name := "fnReportAddCountsEveryViolationAndListsTheFirstHundred", fn := fun _ => fun
  | [d1, d2, d3, d4, d5, d6, d7, d8] => { results := [.lit (.bool false)], args := [d1, d2, d3, d4, d5, d6, d7, d8] }
  | _ => none }
def FnReportAddCountsEveryViolationAndListsTheFirstHundredWrongFalsely : Prop := fnReportAddCountsEveryViolationAndListsTheFirstHundredRow.holds Try.pinned (OpenSpec.ofChange fnReportAddCountsEveryViolationAndListsTheFirstHundredWrong)

end Rows
end Go.Proofs.Qxb6600486a
