/-
  No cell of these rows narrows 'for every input' (looked for: loops, veiled, ifaces, maps, wideKeys, modest, calm, conditions, laid).
  DERIVED. THE GIVEN ROWS OF THIS SEAT. 1 by the template 'for every input the law returns true; each argument reads behind the call as it read before'; 0 by the template 'total and deterministic' (their statements: Qxb6608787aTotals.lean).
  GIVEN WITH THE SEED: the statements are not yours to turn. If you find one false, say at which input.
  Laid BY PROGRAM, IN A SANDBOX (cutbox-rows.mjs): the forced cells as the released guide's own fill.sh prints them over the translation 2db20909e6d9d219… (all of the seat's roots in one cut). By AI agents, Wed Nov 11 2026. No macro, syntax, notation, axiom, sorry.
-/
import Derived.Test.Qxb6608787aChecked
import GoSem.Claim
import GoSem.ClaimJoined
import GoSem.ClaimMapViews
import Derived.JoinedTies
import Derived.KernelRfl
namespace Go.Proofs.Qxb6608787a
/- THE CELL 'sum', in the pinned program and in every row, IS THE sha256 OF THE DUMP (.gsa) THAT Qxb6608787aProg.lean LOADS. Nothing in Lean hashes anything: it is a label: what it is worth is what the hold of that sum in a sandbox is worth. -/
noncomputable def Try.pinned : Pinned := { name := "qxb6608787a", sum := "2db20909e6d9d2190f628cbd72c72e19090c9d3cdb4e6df3b81fd9f68874b754", checked := Try.checked }
namespace Rows
def none {H : Type} : Left H := { results := [], args := [] }

/-- 'zzlaws_root_b1.FnDecisionsConcatenatedRules': WHATEVER THE INPUT: true; the input reads as it did. -/
def fnDecisionsConcatenatedRulesSpec : ChangeSpec := { name := "fnDecisionsConcatenatedRules", fn := fun _ => fun
  | [d1, d2, d3] => { results := [.lit (.bool true)], args := [d1, d2, d3] }
  | _ => none }
def fnDecisionsConcatenatedRulesRow : OpenClaim := { program := "qxb6608787a", sum := "2db20909e6d9d2190f628cbd72c72e19090c9d3cdb4e6df3b81fd9f68874b754", func := "example.com/keyed-verdict/keyed-verdict/zzlaws_root_b1.FnDecisionsConcatenatedRules", spec := "fnDecisionsConcatenatedRules", apart := false }
def FnDecisionsConcatenatedRulesSaid : Prop := fnDecisionsConcatenatedRulesRow.holds Try.pinned (OpenSpec.ofChange fnDecisionsConcatenatedRulesSpec)

/-- ITS FALSE NEIGHBOUR: 'it returns false'. Refute it at one input. -/
def fnDecisionsConcatenatedRulesWrong : ChangeSpec := { name := "fnDecisionsConcatenatedRules", fn := fun _ => fun
  | [d1, d2, d3] => { results := [.lit (.bool false)], args := [d1, d2, d3] }
  | _ => none }
def FnDecisionsConcatenatedRulesWrongFalsely : Prop := fnDecisionsConcatenatedRulesRow.holds Try.pinned (OpenSpec.ofChange fnDecisionsConcatenatedRulesWrong)

end Rows
end Go.Proofs.Qxb6608787a
