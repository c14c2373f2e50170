/-
  No cell of these rows narrows 'for every input' (looked for: loops, veiled, ifaces, maps, wideKeys, modest, calm, conditions, laid).
  DERIVED. THE GIVEN ROWS OF THIS SEAT. 2 by the template 'for every input the law returns true; each argument reads behind the call as it read before'; 0 by the template 'total and deterministic' (their statements: Qxb6627205aTotals.lean).
  GIVEN WITH THE SEED: the statements are not yours to turn. If you find one false, say at which input.
  Laid BY PROGRAM, IN A SANDBOX (cutbox-rows.mjs): the forced cells as the released guide's own fill.sh prints them over the translation eadc4f4213cb4b25… (all of the seat's roots in one cut). By AI agents, Wed Nov 11 2026. No macro, syntax, notation, axiom, sorry.
-/
import Derived.Test.Qxb6627205aChecked
import GoSem.Claim
import GoSem.ClaimJoined
import GoSem.ClaimMapViews
import Derived.JoinedTies
import Derived.KernelRfl
namespace Go.Proofs.Qxb6627205a
/- THE CELL 'sum', in the pinned program and in every row, IS THE sha256 OF THE DUMP (.gsa) THAT Qxb6627205aProg.lean LOADS. Nothing in Lean hashes anything: it is a label: what it is worth is what the hold of that sum in a sandbox is worth. -/
noncomputable def Try.pinned : Pinned := { name := "qxb6627205a", sum := "eadc4f4213cb4b25f4701cd7960f4f4fd7940f55c4fa245b7db0db4f2fce06f8", checked := Try.checked }
namespace Rows
def none {H : Type} : Left H := { results := [], args := [] }

/-- 'zzlaws_internal_authz_b1.FnDecideAgreesWithLinearScan': WHATEVER THE INPUT: true; the input reads as it did. -/
def fnDecideAgreesWithLinearScanSpec : ChangeSpec := { name := "fnDecideAgreesWithLinearScan", fn := fun _ => fun
  | [d1, d2, d3, d4] => { results := [.lit (.bool true)], args := [d1, d2, d3, d4] }
  | _ => none }
def fnDecideAgreesWithLinearScanRow : OpenClaim := { program := "qxb6627205a", sum := "eadc4f4213cb4b25f4701cd7960f4f4fd7940f55c4fa245b7db0db4f2fce06f8", func := "example.com/verdikt/verdikt/zzlaws_internal_authz_b1.FnDecideAgreesWithLinearScan", spec := "fnDecideAgreesWithLinearScan", apart := false }
def FnDecideAgreesWithLinearScanSaid : Prop := fnDecideAgreesWithLinearScanRow.holds Try.pinned (OpenSpec.ofChange fnDecideAgreesWithLinearScanSpec)

/-- ITS FALSE NEIGHBOUR: 'it returns false'. Refute it at one input. -/
def fnDecideAgreesWithLinearScanWrong : ChangeSpec := { name := "fnDecideAgreesWithLinearScan", fn := fun _ => fun
  | [d1, d2, d3, d4] => { results := [.lit (.bool false)], args := [d1, d2, d3, d4] }
  | _ => none }
def FnDecideAgreesWithLinearScanWrongFalsely : Prop := fnDecideAgreesWithLinearScanRow.holds Try.pinned (OpenSpec.ofChange fnDecideAgreesWithLinearScanWrong)

/-- 'zzlaws_internal_authz_b1.FnDecideLeadingDenyRuleDecidesFirst': WHATEVER THE INPUT: true; the input reads as it did. -/
def fnDecideLeadingDenyRuleDecidesFirstSpec : ChangeSpec := { name := "fnDecideLeadingDenyRuleDecidesFirst", fn := fun _ => fun
  | [d1, d2, d3, d4, d5] => { results := [.lit (.bool true)], args := [d1, d2, d3, d4, d5] }
  | _ => none }
def fnDecideLeadingDenyRuleDecidesFirstRow : OpenClaim := { program := "qxb6627205a", sum := "eadc4f4213cb4b25f4701cd7960f4f4fd7940f55c4fa245b7db0db4f2fce06f8", func := "example.com/verdikt/verdikt/zzlaws_internal_authz_b1.FnDecideLeadingDenyRuleDecidesFirst", spec := "fnDecideLeadingDenyRuleDecidesFirst", apart := false }
def FnDecideLeadingDenyRuleDecidesFirstSaid : Prop := fnDecideLeadingDenyRuleDecidesFirstRow.holds Try.pinned (OpenSpec.ofChange fnDecideLeadingDenyRuleDecidesFirstSpec)

/-- ITS FALSE NEIGHBOUR: 'it returns false'. Refute it at one input. -/
def fnDecideLeadingDenyRuleDecidesFirstWrong : ChangeSpec := { name := "fnDecideLeadingDenyRuleDecidesFirst", fn := fun _ => fun
  | [d1, d2, d3, d4, d5] => { results := [.lit (.bool false)], args := [d1, d2, d3, d4, d5] }
  | _ => none }
def FnDecideLeadingDenyRuleDecidesFirstWrongFalsely : Prop := fnDecideLeadingDenyRuleDecidesFirstRow.holds Try.pinned (OpenSpec.ofChange fnDecideLeadingDenyRuleDecidesFirstWrong)

end Rows
end Go.Proofs.Qxb6627205a
