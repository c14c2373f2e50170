/-
  No cell of these rows narrows 'for every input' (looked for: loops, veiled, ifaces, maps, wideKeys, modest, calm, conditions, laid).
  DERIVED. THE GIVEN ROWS OF THIS SEAT. 2 by the template 'for every input the law returns true; each argument reads behind the call as it read before'; 0 by the template 'total and deterministic' (their statements: Qxb6626875aTotals.lean).
  GIVEN WITH THE SEED: the statements are not yours to turn. If you find one false, say at which input.
  Laid BY PROGRAM, IN A SANDBOX (cutbox-rows.mjs): the forced cells as the released guide's own fill.sh prints them over the translation 262e4e23788c8314… (all of the seat's roots in one cut). By AI agents, Wed Nov 11 2026. No macro, syntax, notation, axiom, sorry.
-/
import Derived.Test.Qxb6626875aChecked
import GoSem.Claim
import GoSem.ClaimJoined
import GoSem.ClaimMapViews
import Derived.JoinedTies
import Derived.KernelRfl
namespace Go.Proofs.Qxb6626875a
/- THE CELL 'sum', in the pinned program and in every row, IS THE sha256 OF THE DUMP (.gsa) THAT Qxb6626875aProg.lean LOADS. Nothing in Lean hashes anything: it is a label: what it is worth is what the hold of that sum in a sandbox is worth. -/
noncomputable def Try.pinned : Pinned := { name := "qxb6626875a", sum := "262e4e23788c83148f07f5ce6e8b8270c0958efd240b13ef95cbf6f1394c4d99", checked := Try.checked }
namespace Rows
def none {H : Type} : Left H := { results := [], args := [] }

/-- 'zzlaws_internal_iovec_b1.FnAdvanceComposes': WHATEVER THE INPUT: true; the input reads as it did. -/
def fnAdvanceComposesSpec : ChangeSpec := { name := "fnAdvanceComposes", fn := fun _ => fun
  | [d1, d2, d3] => { results := [.lit (.bool true)], args := [d1, d2, d3] }
  | _ => none }
def fnAdvanceComposesRow : OpenClaim := { program := "qxb6626875a", sum := "262e4e23788c83148f07f5ce6e8b8270c0958efd240b13ef95cbf6f1394c4d99", func := "example.com/palimpsest/palimpsest/zzlaws_internal_iovec_b1.FnAdvanceComposes", spec := "fnAdvanceComposes", apart := false }
def FnAdvanceComposesSaid : Prop := fnAdvanceComposesRow.holds Try.pinned (OpenSpec.ofChange fnAdvanceComposesSpec)

/-- ITS FALSE NEIGHBOUR: 'it returns false'. Refute it at one input. -/
def fnAdvanceComposesWrong : ChangeSpec := { name := "fnAdvanceComposes", fn := fun _ => fun
  | [d1, d2, d3] => { results := [.lit (.bool false)], args := [d1, d2, d3] }
  | _ => none }
def FnAdvanceComposesWrongFalsely : Prop := fnAdvanceComposesRow.holds Try.pinned (OpenSpec.ofChange fnAdvanceComposesWrong)

/-- 'zzlaws_internal_iovec_b1.FnAdvanceCutAgrees': WHATEVER THE INPUT: true; the input reads as it did. -/
def fnAdvanceCutAgreesSpec : ChangeSpec := { name := "fnAdvanceCutAgrees", fn := fun _ => fun
  | [d1, d2, d3] => { results := [.lit (.bool true)], args := [d1, d2, d3] }
  | _ => none }
def fnAdvanceCutAgreesRow : OpenClaim := { program := "qxb6626875a", sum := "262e4e23788c83148f07f5ce6e8b8270c0958efd240b13ef95cbf6f1394c4d99", func := "example.com/palimpsest/palimpsest/zzlaws_internal_iovec_b1.FnAdvanceCutAgrees", spec := "fnAdvanceCutAgrees", apart := false }
def FnAdvanceCutAgreesSaid : Prop := fnAdvanceCutAgreesRow.holds Try.pinned (OpenSpec.ofChange fnAdvanceCutAgreesSpec)

/-- ITS FALSE NEIGHBOUR: 'it returns false'. Refute it at one input. -/
def fnAdvanceCutAgreesWrong : ChangeSpec := { name := "fnAdvanceCutAgrees", fn := fun _ => fun
  | [d1, d2, d3] => { results := [.lit (.bool false)], args := [d1, d2, d3] }
  | _ => none }
def FnAdvanceCutAgreesWrongFalsely : Prop := fnAdvanceCutAgreesRow.holds Try.pinned (OpenSpec.ofChange fnAdvanceCutAgreesWrong)

end Rows
end Go.Proofs.Qxb6626875a
