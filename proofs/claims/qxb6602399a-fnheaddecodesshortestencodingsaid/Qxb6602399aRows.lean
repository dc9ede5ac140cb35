/-
  No cell of these rows narrows 'for every input' (looked for: loops, veiled, ifaces, maps, wideKeys, modest, calm, conditions, laid).
  DERIVED. THE GIVEN ROWS OF THIS SEAT. 2 by the template 'for every input the law returns true; each argument reads behind the call as it read before'; 0 by the template 'total and deterministic' (their statements: Qxb6602399aTotals.lean).
  GIVEN WITH THE SEED: the statements are not yours to turn. If you find one false, say at which input.
  Laid BY PROGRAM, IN A SANDBOX (cutbox-rows.mjs): the forced cells as the released guide's own fill.sh prints them over the translation f6af6f23fb583da6… (all of the seat's roots in one cut). By AI agents, Wed Nov 11 2026. No macro, syntax, notation, axiom, sorry.
-/
import Derived.Test.Qxb6602399aChecked
import GoSem.Claim
import GoSem.ClaimJoined
import GoSem.ClaimMapViews
import Derived.JoinedTies
import Derived.KernelRfl
namespace Go.Proofs.Qxb6602399a
/- THE CELL 'sum', in the pinned program and in every row, IS THE sha256 OF THE DUMP (.gsa) THAT Qxb6602399aProg.lean LOADS. Nothing in Lean hashes anything: it is a label: what it is worth is what the hold of that sum in a sandbox is worth. -/
noncomputable def Try.pinned : Pinned := { name := "qxb6602399a", sum := "f6af6f23fb583da6ce2b629ef1be22822252bcee0436e714b9a55ce2a2bef0a0", checked := Try.checked }
namespace Rows
def none {H : Type} : Left H := { results := [], args := [] }

/-- 'zzlaws_root_b1.FnHeadDecodesShortestEncoding': WHATEVER THE INPUT: true; the input reads as it did. -/
def fnHeadDecodesShortestEncodingSpec : ChangeSpec := { name := "fnHeadDecodesShortestEncoding", fn := fun _ => fun
  | [d1, d2, d3, d4] => { results := [.lit (.bool true)], args := [d1, d2, d3, d4] }
  | _ => none }
def fnHeadDecodesShortestEncodingRow : OpenClaim := { program := "qxb6602399a", sum := "f6af6f23fb583da6ce2b629ef1be22822252bcee0436e714b9a55ce2a2bef0a0", func := "example.com/quorumshift/quorumshift/zzlaws_root_b1.FnHeadDecodesShortestEncoding", spec := "fnHeadDecodesShortestEncoding", apart := false }
def FnHeadDecodesShortestEncodingSaid : Prop := fnHeadDecodesShortestEncodingRow.holds Try.pinned (OpenSpec.ofChange fnHeadDecodesShortestEncodingSpec)

/-- ITS FALSE NEIGHBOUR: 'it returns false'. Refute it at one input. -/
def fnHeadDecodesShortestEncodingWrong : ChangeSpec := { name := "fnHeadDecodesShortestEncoding", fn := fun _ => fun
  | [d1, d2, d3, d4] => { results := [.lit (.bool false)], args := [d1, d2, d3, d4] }
  | _ => none }
def FnHeadDecodesShortestEncodingWrongFalsely : Prop := fnHeadDecodesShortestEncodingRow.holds Try.pinned (OpenSpec.ofChange fnHeadDecodesShortestEncodingWrong)

/-- 'zzlaws_root_b1.FnBoolAgreesWithHeadOfMajorSeven': WHATEVER THE INPUT: true; the input reads as it did. -/
def fnBoolAgreesWithHeadOfMajorSevenSpec : ChangeSpec := { name := "fnBoolAgreesWithHeadOfMajorSeven", fn := fun _ => fun
  | [d1, d2, d3] => { results := [.lit (.bool true)], args := [d1, d2, d3] }
  | _ => none }
def fnBoolAgreesWithHeadOfMajorSevenRow : OpenClaim := { program := "qxb6602399a", sum := "f6af6f23fb583da6ce2b629ef1be22822252bcee0436e714b9a55ce2a2bef0a0", func := "example.com/quorumshift/quorumshift/zzlaws_root_b1.FnBoolAgreesWithHeadOfMajorSeven", spec := "fnBoolAgreesWithHeadOfMajorSeven", apart := false }
def FnBoolAgreesWithHeadOfMajorSevenSaid : Prop := fnBoolAgreesWithHeadOfMajorSevenRow.holds Try.pinned (OpenSpec.ofChange fnBoolAgreesWithHeadOfMajorSevenSpec)

/-- ITS FALSE NEIGHBOUR: 'it returns false'. Refute it at one input. -/
def fnBoolAgreesWithHeadOfMajorSevenWrong : ChangeSpec := { name := "fnBoolAgreesWithHeadOfMajorSeven", fn := fun _ => fun
  | [d1, d2, d3] => { results := [.lit (.bool false)], args := [d1, d2, d3] }
  | _ => none }
def FnBoolAgreesWithHeadOfMajorSevenWrongFalsely : Prop := fnBoolAgreesWithHeadOfMajorSevenRow.holds Try.pinned (OpenSpec.ofChange fnBoolAgreesWithHeadOfMajorSevenWrong)

end Rows
end Go.Proofs.Qxb6602399a
