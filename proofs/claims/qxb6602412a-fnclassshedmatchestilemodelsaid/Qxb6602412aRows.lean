/-
  No cell of these rows narrows 'for every input' (looked for: loops, veiled, ifaces, maps, wideKeys, modest, calm, conditions, laid).
  DERIVED. THE GIVEN ROWS OF THIS SEAT. 7 by the template 'for every input the law returns true; each argument reads behind the call as it read before'; 0 by the template 'total and deterministic' (their statements: Qxb6602412aTotals.lean).
  GIVEN WITH THE SEED: the statements are not yours to turn. If you find one false, say at which input.
  Laid BY PROGRAM, IN A SANDBOX (cutbox-rows.mjs): the forced cells as the released guide's own fill.sh prints them over the translation 4f840930c33ec0ad… (all of the seat's roots in one cut). By AI agents, Wed Nov 11 2026. No macro, syntax, notation, axiom, sorry.
-/
import Derived.Test.Qxb6602412aChecked
import GoSem.Claim
import GoSem.ClaimJoined
import GoSem.ClaimMapViews
import Derived.JoinedTies
import Derived.KernelRfl
namespace Go.Proofs.Qxb6602412a
/- THE CELL 'sum', in the pinned program and in every row, IS THE sha256 OF THE DUMP (.gsa) THAT Qxb6602412aProg.lean LOADS. Nothing in Lean hashes anything: it is a label: what it is worth is what the hold of that sum in a sandbox is worth. -/
noncomputable def Try.pinned : Pinned := { name := "qxb6602412a", sum := "4f840930c33ec0ada66c1f5363762cc8adc400ed4039f94ebc71acce91b0f792", checked := Try.checked }
namespace Rows
def none {H : Type} : Left H := { results := [], args := [] }

/-- 'zzlaws_root_b1.FnClassShedMatchesTileModel': WHATEVER THE INPUT: true; the input reads as it did. -/
def fnClassShedMatchesTileModelSpec : ChangeSpec := { name := "fnClassShedMatchesTileModel", fn := fun _ => fun
  | [d1, d2, d3] => { results := [.lit (.bool true)], args := [d1, d2, d3] }
  | _ => none }
def fnClassShedMatchesTileModelRow : OpenClaim := { program := "qxb6602412a", sum := "4f840930c33ec0ada66c1f5363762cc8adc400ed4039f94ebc71acce91b0f792", func := "example.com/gentle-throttle/gentle-throttle/zzlaws_root_b1.FnClassShedMatchesTileModel", spec := "fnClassShedMatchesTileModel", apart := false }
def FnClassShedMatchesTileModelSaid : Prop := fnClassShedMatchesTileModelRow.holds Try.pinned (OpenSpec.ofChange fnClassShedMatchesTileModelSpec)

/-- ITS FALSE NEIGHBOUR: 'it returns false'. Refute it at one input. -/
def fnClassShedMatchesTileModelWrong : ChangeSpec := { name := "fnClassShedMatchesTileModel", fn := fun _ => fun
  | [d1, d2, d3] => { results := [.lit (.bool false)], args := [d1, d2, d3] }
  | _ => none }
def FnClassShedMatchesTileModelWrongFalsely : Prop := fnClassShedMatchesTileModelRow.holds Try.pinned (OpenSpec.ofChange fnClassShedMatchesTileModelWrong)

/-- 'zzlaws_root_b1.FnClassShedAloneIsTheRulesChance': WHATEVER THE INPUT: true; the input reads as it did. -/
def fnClassShedAloneIsTheRulesChanceSpec : ChangeSpec := { name := "fnClassShedAloneIsTheRulesChance", fn := fun _ => fun
  | [d1, d2, d3] => { results := [.lit (.bool true)], args := [d1, d2, d3] }
  | _ => none }
def fnClassShedAloneIsTheRulesChanceRow : OpenClaim := { program := "qxb6602412a", sum := "4f840930c33ec0ada66c1f5363762cc8adc400ed4039f94ebc71acce91b0f792", func := "example.com/gentle-throttle/gentle-throttle/zzlaws_root_b1.FnClassShedAloneIsTheRulesChance", spec := "fnClassShedAloneIsTheRulesChance", apart := false }
def FnClassShedAloneIsTheRulesChanceSaid : Prop := fnClassShedAloneIsTheRulesChanceRow.holds Try.pinned (OpenSpec.ofChange fnClassShedAloneIsTheRulesChanceSpec)

/-- ITS FALSE NEIGHBOUR: 'it returns false'. Refute it at one input. -/
def fnClassShedAloneIsTheRulesChanceWrong : ChangeSpec := { name := "fnClassShedAloneIsTheRulesChance", fn := fun _ => fun
  | [d1, d2, d3] => { results := [.lit (.bool false)], args := [d1, d2, d3] }
  | _ => none }
def FnClassShedAloneIsTheRulesChanceWrongFalsely : Prop := fnClassShedAloneIsTheRulesChanceRow.holds Try.pinned (OpenSpec.ofChange fnClassShedAloneIsTheRulesChanceWrong)

/-- 'zzlaws_root_b1.FnClassShedUnchangedWhenWeightsDoubled': WHATEVER THE INPUT: true; the input reads as it did. -/
def fnClassShedUnchangedWhenWeightsDoubledSpec : ChangeSpec := { name := "fnClassShedUnchangedWhenWeightsDoubled", fn := fun _ => fun
  | [d1, d2, d3] => { results := [.lit (.bool true)], args := [d1, d2, d3] }
  | _ => none }
def fnClassShedUnchangedWhenWeightsDoubledRow : OpenClaim := { program := "qxb6602412a", sum := "4f840930c33ec0ada66c1f5363762cc8adc400ed4039f94ebc71acce91b0f792", func := "example.com/gentle-throttle/gentle-throttle/zzlaws_root_b1.FnClassShedUnchangedWhenWeightsDoubled", spec := "fnClassShedUnchangedWhenWeightsDoubled", apart := false }
def FnClassShedUnchangedWhenWeightsDoubledSaid : Prop := fnClassShedUnchangedWhenWeightsDoubledRow.holds Try.pinned (OpenSpec.ofChange fnClassShedUnchangedWhenWeightsDoubledSpec)

/-- ITS FALSE NEIGHBOUR: 'it returns false'. Refute it at one input. -/
def fnClassShedUnchangedWhenWeightsDoubledWrong : ChangeSpec := { name := "fnClassShedUnchangedWhenWeightsDoubled", fn := fun _ => fun
  | [d1, d2, d3] => { results := [.lit (.bool false)], args := [d1, d2, d3] }
  | _ => none }
def FnClassShedUnchangedWhenWeightsDoubledWrongFalsely : Prop := fnClassShedUnchangedWhenWeightsDoubledRow.holds Try.pinned (OpenSpec.ofChange fnClassShedUnchangedWhenWeightsDoubledWrong)

/-- 'zzlaws_root_b1.FnFedTallySumAdditiveOverSlots': WHATEVER THE INPUT: true; the input reads as it did. -/
def fnFedTallySumAdditiveOverSlotsSpec : ChangeSpec := { name := "fnFedTallySumAdditiveOverSlots", fn := fun _ => fun
  | [d1, d2, d3, d4] => { results := [.lit (.bool true)], args := [d1, d2, d3, d4] }
  | _ => none }
def fnFedTallySumAdditiveOverSlotsRow : OpenClaim := { program := "qxb6602412a", sum := "4f840930c33ec0ada66c1f5363762cc8adc400ed4039f94ebc71acce91b0f792", func := "example.com/gentle-throttle/gentle-throttle/zzlaws_root_b1.FnFedTallySumAdditiveOverSlots", spec := "fnFedTallySumAdditiveOverSlots", apart := false }
def FnFedTallySumAdditiveOverSlotsSaid : Prop := fnFedTallySumAdditiveOverSlotsRow.holds Try.pinned (OpenSpec.ofChange fnFedTallySumAdditiveOverSlotsSpec)

/-- ITS FALSE NEIGHBOUR: 'it returns false'. Refute it at one input. -/
def fnFedTallySumAdditiveOverSlotsWrong : ChangeSpec := { name := "fnFedTallySumAdditiveOverSlots", fn := fun _ => fun
  | [d1, d2, d3, d4] => { results := [.lit (.bool false)], args := [d1, d2, d3, d4] }
  | _ => none }
def FnFedTallySumAdditiveOverSlotsWrongFalsely : Prop := fnFedTallySumAdditiveOverSlotsRow.holds Try.pinned (OpenSpec.ofChange fnFedTallySumAdditiveOverSlotsWrong)

/-- 'zzlaws_root_b1.FnFedTallySumOldSlotsLeaveNothing': WHATEVER THE INPUT: true; the input reads as it did. -/
def fnFedTallySumOldSlotsLeaveNothingSpec : ChangeSpec := { name := "fnFedTallySumOldSlotsLeaveNothing", fn := fun _ => fun
  | [d1, d2, d3, d4] => { results := [.lit (.bool true)], args := [d1, d2, d3, d4] }
  | _ => none }
def fnFedTallySumOldSlotsLeaveNothingRow : OpenClaim := { program := "qxb6602412a", sum := "4f840930c33ec0ada66c1f5363762cc8adc400ed4039f94ebc71acce91b0f792", func := "example.com/gentle-throttle/gentle-throttle/zzlaws_root_b1.FnFedTallySumOldSlotsLeaveNothing", spec := "fnFedTallySumOldSlotsLeaveNothing", apart := false }
def FnFedTallySumOldSlotsLeaveNothingSaid : Prop := fnFedTallySumOldSlotsLeaveNothingRow.holds Try.pinned (OpenSpec.ofChange fnFedTallySumOldSlotsLeaveNothingSpec)

/-- ITS FALSE NEIGHBOUR: 'it returns false'. Refute it at one input. -/
def fnFedTallySumOldSlotsLeaveNothingWrong : ChangeSpec := { name := "fnFedTallySumOldSlotsLeaveNothing", fn := fun _ => fun
  | [d1, d2, d3, d4] => { results := [.lit (.bool false)], args := [d1, d2, d3, d4] }
  | _ => none }
def FnFedTallySumOldSlotsLeaveNothingWrongFalsely : Prop := fnFedTallySumOldSlotsLeaveNothingRow.holds Try.pinned (OpenSpec.ofChange fnFedTallySumOldSlotsLeaveNothingWrong)

/-- 'zzlaws_root_b1.FnFedTallySumShiftInvariant': WHATEVER THE INPUT: true; the input reads as it did. -/
def fnFedTallySumShiftInvariantSpec : ChangeSpec := { name := "fnFedTallySumShiftInvariant", fn := fun _ => fun
  | [d1, d2, d3, d4, d5] => { results := [.lit (.bool true)], args := [d1, d2, d3, d4, d5] }
  | _ => none }
def fnFedTallySumShiftInvariantRow : OpenClaim := { program := "qxb6602412a", sum := "4f840930c33ec0ada66c1f5363762cc8adc400ed4039f94ebc71acce91b0f792", func := "example.com/gentle-throttle/gentle-throttle/zzlaws_root_b1.FnFedTallySumShiftInvariant", spec := "fnFedTallySumShiftInvariant", apart := false }
def FnFedTallySumShiftInvariantSaid : Prop := fnFedTallySumShiftInvariantRow.holds Try.pinned (OpenSpec.ofChange fnFedTallySumShiftInvariantSpec)

/-- ITS FALSE NEIGHBOUR: 'it returns false'. Refute it at one input. -/
def fnFedTallySumShiftInvariantWrong : ChangeSpec := { name := "fnFedTallySumShiftInvariant", fn := fun _ => fun
  | [d1, d2, d3, d4, d5] => { results := [.lit (.bool false)], args := [d1, d2, d3, d4, d5] }
  | _ => none }
def FnFedTallySumShiftInvariantWrongFalsely : Prop := fnFedTallySumShiftInvariantRow.holds Try.pinned (OpenSpec.ofChange fnFedTallySumShiftInvariantWrong)

/-- 'zzlaws_root_b1.FnFedTallySumLetWithinDue': WHATEVER THE INPUT: true; the input reads as it did. -/
def fnFedTallySumLetWithinDueSpec : ChangeSpec := { name := "fnFedTallySumLetWithinDue", fn := fun _ => fun
  | [d1, d2, d3, d4] => { results := [.lit (.bool true)], args := [d1, d2, d3, d4] }
  | _ => none }
def fnFedTallySumLetWithinDueRow : OpenClaim := { program := "qxb6602412a", sum := "4f840930c33ec0ada66c1f5363762cc8adc400ed4039f94ebc71acce91b0f792", func := "example.com/gentle-throttle/gentle-throttle/zzlaws_root_b1.FnFedTallySumLetWithinDue", spec := "fnFedTallySumLetWithinDue", apart := false }
def FnFedTallySumLetWithinDueSaid : Prop := fnFedTallySumLetWithinDueRow.holds Try.pinned (OpenSpec.ofChange fnFedTallySumLetWithinDueSpec)

/-- ITS FALSE NEIGHBOUR: 'it returns false'. Refute it at one input. -/
def fnFedTallySumLetWithinDueWrong : ChangeSpec := { name := "fnFedTallySumLetWithinDue", fn := fun _ => fun
  | [d1, d2, d3, d4] => { results := [.lit (.bool false)], args := [d1, d2, d3, d4] }
  | _ => none }
def FnFedTallySumLetWithinDueWrongFalsely : Prop := fnFedTallySumLetWithinDueRow.holds Try.pinned (OpenSpec.ofChange fnFedTallySumLetWithinDueWrong)

end Rows
end Go.Proofs.Qxb6602412a
