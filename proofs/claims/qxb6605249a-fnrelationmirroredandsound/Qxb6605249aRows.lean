/-
  No cell of these rows narrows 'for every input' (looked for: loops, veiled, ifaces, maps, wideKeys, modest, calm, conditions, laid).
  DERIVED. THE GIVEN ROWS OF THIS SEAT. 6 by the template 'for every input the law returns true; each argument reads behind the call as it read before'; 0 by the template 'total and deterministic' (their statements: Qxb6605249aTotals.lean).
  GIVEN WITH THE SEED: the statements are not yours to turn. If you find one false, say at which input.
  Laid BY PROGRAM, IN A SANDBOX (cutbox-rows.mjs): the forced cells as the released guide's own fill.sh prints them over the translation 8293b9c0a66bb27d… (all of the seat's roots in one cut). By AI agents, Wed Nov 11 2026. No macro, syntax, notation, axiom, sorry.
-/
import Derived.Test.Qxb6605249aChecked
import GoSem.Claim
import GoSem.ClaimJoined
import GoSem.ClaimMapViews
import Derived.JoinedTies
import Derived.KernelRfl
namespace Go.Proofs.Qxb6605249a
/- THE CELL 'sum', in the pinned program and in every row, IS THE sha256 OF THE DUMP (.gsa) THAT Qxb6605249aProg.lean LOADS. Nothing in Lean hashes anything: it is a label: what it is worth is what the hold of that sum in a sandbox is worth. -/
noncomputable def Try.pinned : Pinned := { name := "qxb6605249a", sum := "8293b9c0a66bb27d0a10cc7659588be96daace8aa61191c1c08bd883f497cb52", checked := Try.checked }
namespace Rows
def none {H : Type} : Left H := { results := [], args := [] }

/-- 'zzlaws_internal_causal_b1.FnAddRecordsExactPast': WHATEVER THE INPUT: true; the input reads as it did. -/
def fnAddRecordsExactPastSpec : ChangeSpec := { name := "fnAddRecordsExactPast", fn := fun _ => fun
  | [d1, d2, d3, d4, d5, d6, d7, d8] => { results := [.lit (.bool true)], args := [d1, d2, d3, d4, d5, d6, d7, d8] }
  | _ => none }
def fnAddRecordsExactPastRow : OpenClaim := { program := "qxb6605249a", sum := "8293b9c0a66bb27d0a10cc7659588be96daace8aa61191c1c08bd883f497cb52", func := "example.com/antecede/antecede/zzlaws_internal_causal_b1.FnAddRecordsExactPast", spec := "fnAddRecordsExactPast", plainKeys := false, apart := false }
def FnAddRecordsExactPastSaid : Prop := fnAddRecordsExactPastRow.holds Try.pinned (OpenSpec.ofChange fnAddRecordsExactPastSpec)

/-- ITS FALSE NEIGHBOUR: 'it returns false'. Refute it at one input. -/
def fnAddRecordsExactPastWrong : ChangeSpec := { name := "fnAddRecordsExactPast", fn := fun _ => fun
  | [d1, d2, d3, d4, d5, d6, d7, d8] => { results := [.lit (.bool false)], args := [d1, d2, d3, d4, d5, d6, d7, d8] }
  | _ => none }
def FnAddRecordsExactPastWrongFalsely : Prop := fnAddRecordsExactPastRow.holds Try.pinned (OpenSpec.ofChange fnAddRecordsExactPastWrong)

/-- 'zzlaws_internal_causal_b1.FnAddKeepsSoundBounds': WHATEVER THE INPUT: true; the input reads as it did. -/
def fnAddKeepsSoundBoundsSpec : ChangeSpec := { name := "fnAddKeepsSoundBounds", fn := fun _ => fun
  | [d1, d2, d3, d4, d5, d6, d7, d8] => { results := [.lit (.bool true)], args := [d1, d2, d3, d4, d5, d6, d7, d8] }
  | _ => none }
def fnAddKeepsSoundBoundsRow : OpenClaim := { program := "qxb6605249a", sum := "8293b9c0a66bb27d0a10cc7659588be96daace8aa61191c1c08bd883f497cb52", func := "example.com/antecede/antecede/zzlaws_internal_causal_b1.FnAddKeepsSoundBounds", spec := "fnAddKeepsSoundBounds", plainKeys := false, apart := false }
def FnAddKeepsSoundBoundsSaid : Prop := fnAddKeepsSoundBoundsRow.holds Try.pinned (OpenSpec.ofChange fnAddKeepsSoundBoundsSpec)

/-- ITS FALSE NEIGHBOUR: 'it returns false'. Refute it at one input. -/
def fnAddKeepsSoundBoundsWrong : ChangeSpec := { name := "fnAddKeepsSoundBounds", fn := fun _ => fun
  | [d1, d2, d3, d4, d5, d6, d7, d8] => { results := [.lit (.bool false)], args := [d1, d2, d3, d4, d5, d6, d7, d8] }
  | _ => none }
def FnAddKeepsSoundBoundsWrongFalsely : Prop := fnAddKeepsSoundBoundsRow.holds Try.pinned (OpenSpec.ofChange fnAddKeepsSoundBoundsWrong)

/-- 'zzlaws_internal_causal_b1.FnInExactWithoutForgetting': WHATEVER THE INPUT: true; the input reads as it did. -/
def fnInExactWithoutForgettingSpec : ChangeSpec := { name := "fnInExactWithoutForgetting", fn := fun _ => fun
  | [d1, d2, d3, d4, d5, d6, d7, d8, d9, d10] => { results := [.lit (.bool true)], args := [d1, d2, d3, d4, d5, d6, d7, d8, d9, d10] }
  | _ => none }
def fnInExactWithoutForgettingRow : OpenClaim := { program := "qxb6605249a", sum := "8293b9c0a66bb27d0a10cc7659588be96daace8aa61191c1c08bd883f497cb52", func := "example.com/antecede/antecede/zzlaws_internal_causal_b1.FnInExactWithoutForgetting", spec := "fnInExactWithoutForgetting", plainKeys := false, apart := false }
def FnInExactWithoutForgettingSaid : Prop := fnInExactWithoutForgettingRow.holds Try.pinned (OpenSpec.ofChange fnInExactWithoutForgettingSpec)

/-- ITS FALSE NEIGHBOUR: 'it returns false'. Refute it at one input. -/
def fnInExactWithoutForgettingWrong : ChangeSpec := { name := "fnInExactWithoutForgetting", fn := fun _ => fun
  | [d1, d2, d3, d4, d5, d6, d7, d8, d9, d10] => { results := [.lit (.bool false)], args := [d1, d2, d3, d4, d5, d6, d7, d8, d9, d10] }
  | _ => none }
def FnInExactWithoutForgettingWrongFalsely : Prop := fnInExactWithoutForgettingRow.holds Try.pinned (OpenSpec.ofChange fnInExactWithoutForgettingWrong)

/-- 'zzlaws_internal_causal_b1.FnInNeverLies': WHATEVER THE INPUT: true; the input reads as it did. -/
def fnInNeverLiesSpec : ChangeSpec := { name := "fnInNeverLies", fn := fun _ => fun
  | [d1, d2, d3, d4, d5, d6, d7, d8, d9, d10] => { results := [.lit (.bool true)], args := [d1, d2, d3, d4, d5, d6, d7, d8, d9, d10] }
  | _ => none }
def fnInNeverLiesRow : OpenClaim := { program := "qxb6605249a", sum := "8293b9c0a66bb27d0a10cc7659588be96daace8aa61191c1c08bd883f497cb52", func := "example.com/antecede/antecede/zzlaws_internal_causal_b1.FnInNeverLies", spec := "fnInNeverLies", plainKeys := false, apart := false }
def FnInNeverLiesSaid : Prop := fnInNeverLiesRow.holds Try.pinned (OpenSpec.ofChange fnInNeverLiesSpec)

/-- ITS FALSE NEIGHBOUR: 'it returns false'. Refute it at one input. -/
def fnInNeverLiesWrong : ChangeSpec := { name := "fnInNeverLies", fn := fun _ => fun
  | [d1, d2, d3, d4, d5, d6, d7, d8, d9, d10] => { results := [.lit (.bool false)], args := [d1, d2, d3, d4, d5, d6, d7, d8, d9, d10] }
  | _ => none }
def FnInNeverLiesWrongFalsely : Prop := fnInNeverLiesRow.holds Try.pinned (OpenSpec.ofChange fnInNeverLiesWrong)

/-- 'zzlaws_internal_causal_b1.FnRelationExactWithoutForgetting': WHATEVER THE INPUT: true; the input reads as it did. -/
def fnRelationExactWithoutForgettingSpec : ChangeSpec := { name := "fnRelationExactWithoutForgetting", fn := fun _ => fun
  | [d1, d2, d3, d4, d5, d6, d7, d8, d9, d10] => { results := [.lit (.bool true)], args := [d1, d2, d3, d4, d5, d6, d7, d8, d9, d10] }
  | _ => none }
def fnRelationExactWithoutForgettingRow : OpenClaim := { program := "qxb6605249a", sum := "8293b9c0a66bb27d0a10cc7659588be96daace8aa61191c1c08bd883f497cb52", func := "example.com/antecede/antecede/zzlaws_internal_causal_b1.FnRelationExactWithoutForgetting", spec := "fnRelationExactWithoutForgetting", plainKeys := false, apart := false }
def FnRelationExactWithoutForgettingSaid : Prop := fnRelationExactWithoutForgettingRow.holds Try.pinned (OpenSpec.ofChange fnRelationExactWithoutForgettingSpec)

/-- ITS FALSE NEIGHBOUR: 'it returns false'. Refute it at one input. -/
def fnRelationExactWithoutForgettingWrong : ChangeSpec := { name := "fnRelationExactWithoutForgetting", fn := fun _ => fun
  | [d1, d2, d3, d4, d5, d6, d7, d8, d9, d10] => { results := [.lit (.bool false)], args := [d1, d2, d3, d4, d5, d6, d7, d8, d9, d10] }
  | _ => none }
def FnRelationExactWithoutForgettingWrongFalsely : Prop := fnRelationExactWithoutForgettingRow.holds Try.pinned (OpenSpec.ofChange fnRelationExactWithoutForgettingWrong)

/-- 'zzlaws_internal_causal_b1.FnRelationMirroredAndSound': WHATEVER THE INPUT: true; the input reads as it did. -/
def fnRelationMirroredAndSoundSpec : ChangeSpec := { name := "fnRelationMirroredAndSound", fn := fun _ => fun
  | [d1, d2, d3, d4, d5, d6, d7, d8, d9, d10] => { results := [.lit (.bool true)], args := [d1, d2, d3, d4, d5, d6, d7, d8, d9, d10] }
  | _ => none }
def fnRelationMirroredAndSoundRow : OpenClaim := { program := "qxb6605249a", sum := "8293b9c0a66bb27d0a10cc7659588be96daace8aa61191c1c08bd883f497cb52", func := "example.com/antecede/antecede/zzlaws_internal_causal_b1.FnRelationMirroredAndSound", spec := "fnRelationMirroredAndSound", plainKeys := false, apart := false }
def FnRelationMirroredAndSoundSaid : Prop := fnRelationMirroredAndSoundRow.holds Try.pinned (OpenSpec.ofChange fnRelationMirroredAndSoundSpec)

/-- ITS FALSE NEIGHBOUR: 'it returns false'. Refute it at one input. -/
def fnRelationMirroredAndSoundWrong : ChangeSpec := { name := "fnRelationMirroredAndSound", fn := fun _ => fun
  | [d1, d2, d3, d4, d5, d6, d7, d8, d9, d10] => { results := [.lit (.bool false)], args := [d1, d2, d3, d4, d5, d6, d7, d8, d9, d10] }
  | _ => none }
def FnRelationMirroredAndSoundWrongFalsely : Prop := fnRelationMirroredAndSoundRow.holds Try.pinned (OpenSpec.ofChange fnRelationMirroredAndSoundWrong)

end Rows
end Go.Proofs.Qxb6605249a
