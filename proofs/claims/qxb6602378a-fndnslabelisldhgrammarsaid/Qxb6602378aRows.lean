/-
  No cell of these rows narrows 'for every input' (looked for: loops, veiled, ifaces, maps, wideKeys, modest, calm, conditions, laid).
  DERIVED. THE GIVEN ROWS OF THIS SEAT. 3 by the template 'for every input the law returns true; each argument reads behind the call as it read before'; 0 by the template 'total and deterministic' (their statements: Qxb6602378aTotals.lean).
  GIVEN WITH THE SEED: the statements are not yours to turn. If you find one false, say at which input.
  Laid BY PROGRAM, IN A SANDBOX (cutbox-rows.mjs): the forced cells as the released guide's own fill.sh prints them over the translation 0b033d381231ab6c… (all of the seat's roots in one cut). By AI agents, Wed Nov 11 2026. No macro, syntax, notation, axiom, sorry.
-/
import Derived.Test.Qxb6602378aChecked
import GoSem.Claim
import GoSem.ClaimJoined
import GoSem.ClaimMapViews
import Derived.JoinedTies
import Derived.KernelRfl
namespace Go.Proofs.Qxb6602378a
/- THE CELL 'sum', in the pinned program and in every row, IS THE sha256 OF THE DUMP (.gsa) THAT Qxb6602378aProg.lean LOADS. Nothing in Lean hashes anything: it is a label: what it is worth is what the hold of that sum in a sandbox is worth. -/
noncomputable def Try.pinned : Pinned := { name := "qxb6602378a", sum := "0b033d381231ab6cdb5ffed93eba30eb5cc6cf053ab81fe9b560114d518595db", checked := Try.checked }
namespace Rows
def none {H : Type} : Left H := { results := [], args := [] }

/-- 'zzlaws_internal_ca_b1.FnDNSLabelIsLDHGrammar': WHATEVER THE INPUT: true; the input reads as it did. -/
def fnDNSLabelIsLDHGrammarSpec : ChangeSpec := { name := "fnDNSLabelIsLDHGrammar", fn := fun _ => fun
  | [d] => { results := [.lit (.bool true)], args := [d] }
  | _ => none }
def fnDNSLabelIsLDHGrammarRow : OpenClaim := { program := "qxb6602378a", sum := "0b033d381231ab6cdb5ffed93eba30eb5cc6cf053ab81fe9b560114d518595db", func := "example.com/dokimasia/dokimasia/zzlaws_internal_ca_b1.FnDNSLabelIsLDHGrammar", spec := "fnDNSLabelIsLDHGrammar", apart := false }
def FnDNSLabelIsLDHGrammarSaid : Prop := fnDNSLabelIsLDHGrammarRow.holds Try.pinned (OpenSpec.ofChange fnDNSLabelIsLDHGrammarSpec)

/-- ITS FALSE NEIGHBOUR: 'it returns false'. Refute it at one input. -/
def fnDNSLabelIsLDHGrammarWrong : ChangeSpec := { name := "fnDNSLabelIsLDHGrammar", fn := fun _ => fun
  | [d] => { results := [.lit (.bool false)], args := [d] }
  | _ => none }
def FnDNSLabelIsLDHGrammarWrongFalsely : Prop := fnDNSLabelIsLDHGrammarRow.holds Try.pinned (OpenSpec.ofChange fnDNSLabelIsLDHGrammarWrong)

/-- 'zzlaws_internal_ca_b1.FnDNSLabelCaseBlind': WHATEVER THE INPUT: true; the input reads as it did. -/
def fnDNSLabelCaseBlindSpec : ChangeSpec := { name := "fnDNSLabelCaseBlind", fn := fun _ => fun
  | [d] => { results := [.lit (.bool true)], args := [d] }
  | _ => none }
def fnDNSLabelCaseBlindRow : OpenClaim := { program := "qxb6602378a", sum := "0b033d381231ab6cdb5ffed93eba30eb5cc6cf053ab81fe9b560114d518595db", func := "example.com/dokimasia/dokimasia/zzlaws_internal_ca_b1.FnDNSLabelCaseBlind", spec := "fnDNSLabelCaseBlind", apart := false }
def FnDNSLabelCaseBlindSaid : Prop := fnDNSLabelCaseBlindRow.holds Try.pinned (OpenSpec.ofChange fnDNSLabelCaseBlindSpec)

/-- ITS FALSE NEIGHBOUR: 'it returns false'. Refute it at one input. -/
def fnDNSLabelCaseBlindWrong : ChangeSpec := { name := "fnDNSLabelCaseBlind", fn := fun _ => fun
  | [d] => { results := [.lit (.bool false)], args := [d] }
  | _ => none }
def FnDNSLabelCaseBlindWrongFalsely : Prop := fnDNSLabelCaseBlindRow.holds Try.pinned (OpenSpec.ofChange fnDNSLabelCaseBlindWrong)

/-- 'zzlaws_internal_ca_b1.FnDNSLabelJoin': WHATEVER THE INPUT: true; the input reads as it did. -/
def fnDNSLabelJoinSpec : ChangeSpec := { name := "fnDNSLabelJoin", fn := fun _ => fun
  | [d1, d2] => { results := [.lit (.bool true)], args := [d1, d2] }
  | _ => none }
def fnDNSLabelJoinRow : OpenClaim := { program := "qxb6602378a", sum := "0b033d381231ab6cdb5ffed93eba30eb5cc6cf053ab81fe9b560114d518595db", func := "example.com/dokimasia/dokimasia/zzlaws_internal_ca_b1.FnDNSLabelJoin", spec := "fnDNSLabelJoin", apart := false }
def FnDNSLabelJoinSaid : Prop := fnDNSLabelJoinRow.holds Try.pinned (OpenSpec.ofChange fnDNSLabelJoinSpec)

/-- ITS FALSE NEIGHBOUR: 'it returns false'. Refute it at one input. -/
def fnDNSLabelJoinWrong : ChangeSpec := { name := "fnDNSLabelJoin", fn := fun _ => fun
  | [d1, d2] => { results := [.lit (.bool false)], args := [d1, d2] }
  | _ => none }
def FnDNSLabelJoinWrongFalsely : Prop := fnDNSLabelJoinRow.holds Try.pinned (OpenSpec.ofChange fnDNSLabelJoinWrong)

end Rows
end Go.Proofs.Qxb6602378a
