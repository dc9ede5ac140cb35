/-
  No cell of these rows narrows 'for every input' (looked for: loops, veiled, ifaces, maps, wideKeys, modest, calm, conditions, laid).
  DERIVED. THE GIVEN ROWS OF THIS SEAT. 5 by the template 'for every input the law returns true; each argument reads behind the call as it read before'; 0 by the template 'total and deterministic' (their statements: Qxb6602337aTotals.lean).
  GIVEN WITH THE SEED: the statements are not yours to turn. If you find one false, say at which input.
  Laid BY PROGRAM, IN A SANDBOX (cutbox-rows.mjs): the forced cells as the released guide's own fill.sh prints them over the translation e984decf548a95d3… (all of the seat's roots in one cut). By AI agents, Wed Nov 11 2026. No macro, syntax, notation, axiom, sorry.
-/
import Derived.Test.Qxb6602337aChecked
import GoSem.Claim
import GoSem.ClaimJoined
import GoSem.ClaimMapViews
import Derived.JoinedTies
import Derived.KernelRfl
namespace Go.Proofs.Qxb6602337a
/- THE CELL 'sum', in the pinned program and in every row, IS THE sha256 OF THE DUMP (.gsa) THAT Qxb6602337aProg.lean LOADS. Nothing in Lean hashes anything: it is a label: what it is worth is what the hold of that sum in a sandbox is worth. -/
noncomputable def Try.pinned : Pinned := { name := "qxb6602337a", sum := "e984decf548a95d3135ced43776ed8c0d90852c8d1ac910110b3f1e9e284b033", checked := Try.checked }
namespace Rows
def none {H : Type} : Left H := { results := [], args := [] }

/-- 'zzlaws_engine_b1.FnSkipValueMatchesStateMachine': WHATEVER THE INPUT: true; the input reads as it did. -/
def fnSkipValueMatchesStateMachineSpec : ChangeSpec := { name := "fnSkipValueMatchesStateMachine", fn := fun _ => fun
  | [d1, d2] => { results := [.lit (.bool true)], args := [d1, d2] }
  | _ => none }
def fnSkipValueMatchesStateMachineRow : OpenClaim := { program := "qxb6602337a", sum := "e984decf548a95d3135ced43776ed8c0d90852c8d1ac910110b3f1e9e284b033", func := "example.com/groundskeeper/groundskeeper/zzlaws_engine_b1.FnSkipValueMatchesStateMachine", spec := "fnSkipValueMatchesStateMachine", apart := false }
def FnSkipValueMatchesStateMachineSaid : Prop := fnSkipValueMatchesStateMachineRow.holds Try.pinned (OpenSpec.ofChange fnSkipValueMatchesStateMachineSpec)

/-- ITS FALSE NEIGHBOUR: 'it returns false'. Refute it at one input. -/
def fnSkipValueMatchesStateMachineWrong : ChangeSpec := { name := "fnSkipValueMatchesStateMachine", fn := fun _ => fun
  | [d1, d2] => { results := [.lit (.bool false)], args := [d1, d2] }
  | _ => none }
def FnSkipValueMatchesStateMachineWrongFalsely : Prop := fnSkipValueMatchesStateMachineRow.holds Try.pinned (OpenSpec.ofChange fnSkipValueMatchesStateMachineWrong)

/-- 'zzlaws_engine_b1.FnSkipValueEndsInBounds': WHATEVER THE INPUT: true; the input reads as it did. -/
def fnSkipValueEndsInBoundsSpec : ChangeSpec := { name := "fnSkipValueEndsInBounds", fn := fun _ => fun
  | [d1, d2] => { results := [.lit (.bool true)], args := [d1, d2] }
  | _ => none }
def fnSkipValueEndsInBoundsRow : OpenClaim := { program := "qxb6602337a", sum := "e984decf548a95d3135ced43776ed8c0d90852c8d1ac910110b3f1e9e284b033", func := "example.com/groundskeeper/groundskeeper/zzlaws_engine_b1.FnSkipValueEndsInBounds", spec := "fnSkipValueEndsInBounds", apart := false }
def FnSkipValueEndsInBoundsSaid : Prop := fnSkipValueEndsInBoundsRow.holds Try.pinned (OpenSpec.ofChange fnSkipValueEndsInBoundsSpec)

/-- ITS FALSE NEIGHBOUR: 'it returns false'. Refute it at one input. -/
def fnSkipValueEndsInBoundsWrong : ChangeSpec := { name := "fnSkipValueEndsInBounds", fn := fun _ => fun
  | [d1, d2] => { results := [.lit (.bool false)], args := [d1, d2] }
  | _ => none }
def FnSkipValueEndsInBoundsWrongFalsely : Prop := fnSkipValueEndsInBoundsRow.holds Try.pinned (OpenSpec.ofChange fnSkipValueEndsInBoundsWrong)

/-- 'zzlaws_engine_b1.FnSkipValueIsLocal': WHATEVER THE INPUT: true; the input reads as it did. -/
def fnSkipValueIsLocalSpec : ChangeSpec := { name := "fnSkipValueIsLocal", fn := fun _ => fun
  | [d1, d2] => { results := [.lit (.bool true)], args := [d1, d2] }
  | _ => none }
def fnSkipValueIsLocalRow : OpenClaim := { program := "qxb6602337a", sum := "e984decf548a95d3135ced43776ed8c0d90852c8d1ac910110b3f1e9e284b033", func := "example.com/groundskeeper/groundskeeper/zzlaws_engine_b1.FnSkipValueIsLocal", spec := "fnSkipValueIsLocal", apart := false }
def FnSkipValueIsLocalSaid : Prop := fnSkipValueIsLocalRow.holds Try.pinned (OpenSpec.ofChange fnSkipValueIsLocalSpec)

/-- ITS FALSE NEIGHBOUR: 'it returns false'. Refute it at one input. -/
def fnSkipValueIsLocalWrong : ChangeSpec := { name := "fnSkipValueIsLocal", fn := fun _ => fun
  | [d1, d2] => { results := [.lit (.bool false)], args := [d1, d2] }
  | _ => none }
def FnSkipValueIsLocalWrongFalsely : Prop := fnSkipValueIsLocalRow.holds Try.pinned (OpenSpec.ofChange fnSkipValueIsLocalWrong)

/-- 'zzlaws_engine_b1.FnOneStepPerLayerReversal': WHATEVER THE INPUT: true; the input reads as it did. -/
def fnOneStepPerLayerReversalSpec : ChangeSpec := { name := "fnOneStepPerLayerReversal", fn := fun _ => fun
  | [d1, d2, d3] => { results := [.lit (.bool true)], args := [d1, d2, d3] }
  | _ => none }
def fnOneStepPerLayerReversalRow : OpenClaim := { program := "qxb6602337a", sum := "e984decf548a95d3135ced43776ed8c0d90852c8d1ac910110b3f1e9e284b033", func := "example.com/groundskeeper/groundskeeper/zzlaws_engine_b1.FnOneStepPerLayerReversal", spec := "fnOneStepPerLayerReversal", apart := false }
def FnOneStepPerLayerReversalSaid : Prop := fnOneStepPerLayerReversalRow.holds Try.pinned (OpenSpec.ofChange fnOneStepPerLayerReversalSpec)

/-- ITS FALSE NEIGHBOUR: 'it returns false'. Refute it at one input. -/
def fnOneStepPerLayerReversalWrong : ChangeSpec := { name := "fnOneStepPerLayerReversal", fn := fun _ => fun
  | [d1, d2, d3] => { results := [.lit (.bool false)], args := [d1, d2, d3] }
  | _ => none }
def FnOneStepPerLayerReversalWrongFalsely : Prop := fnOneStepPerLayerReversalRow.holds Try.pinned (OpenSpec.ofChange fnOneStepPerLayerReversalWrong)

/-- 'zzlaws_engine_b1.FnOneStepPerLayerExtend': WHATEVER THE INPUT: true; the input reads as it did. -/
def fnOneStepPerLayerExtendSpec : ChangeSpec := { name := "fnOneStepPerLayerExtend", fn := fun _ => fun
  | [d1, d2, d3, d4, d5] => { results := [.lit (.bool true)], args := [d1, d2, d3, d4, d5] }
  | _ => none }
def fnOneStepPerLayerExtendRow : OpenClaim := { program := "qxb6602337a", sum := "e984decf548a95d3135ced43776ed8c0d90852c8d1ac910110b3f1e9e284b033", func := "example.com/groundskeeper/groundskeeper/zzlaws_engine_b1.FnOneStepPerLayerExtend", spec := "fnOneStepPerLayerExtend", apart := false }
def FnOneStepPerLayerExtendSaid : Prop := fnOneStepPerLayerExtendRow.holds Try.pinned (OpenSpec.ofChange fnOneStepPerLayerExtendSpec)

/-- ITS FALSE NEIGHBOUR: 'it returns false'. Refute it at one input. -/
def fnOneStepPerLayerExtendWrong : ChangeSpec := { name := "fnOneStepPerLayerExtend", fn := fun _ => fun
  | [d1, d2, d3, d4, d5] => { results := [.lit (.bool false)], args := [d1, d2, d3, d4, d5] }
  | _ => none }
def FnOneStepPerLayerExtendWrongFalsely : Prop := fnOneStepPerLayerExtendRow.holds Try.pinned (OpenSpec.ofChange fnOneStepPerLayerExtendWrong)

end Rows
end Go.Proofs.Qxb6602337a
