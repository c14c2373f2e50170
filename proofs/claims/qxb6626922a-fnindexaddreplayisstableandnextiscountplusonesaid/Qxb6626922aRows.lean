/-
  No cell of these rows narrows 'for every input' (looked for: loops, veiled, ifaces, maps, wideKeys, modest, calm, conditions, laid).
  DERIVED. THE GIVEN ROWS OF THIS SEAT. 2 by the template 'for every input the law returns true; each argument reads behind the call as it read before'; 0 by the template 'total and deterministic' (their statements: Qxb6626922aTotals.lean).
  GIVEN WITH THE SEED: the statements are not yours to turn. If you find one false, say at which input.
  Laid BY PROGRAM, IN A SANDBOX (cutbox-rows.mjs): the forced cells as the released guide's own fill.sh prints them over the translation 7fb66faf388e91a1… (all of the seat's roots in one cut). By AI agents, Wed Nov 11 2026. No macro, syntax, notation, axiom, sorry.
-/
import Derived.Test.Qxb6626922aChecked
import GoSem.Claim
import GoSem.ClaimJoined
import GoSem.ClaimMapViews
import Derived.JoinedTies
import Derived.KernelRfl
namespace Go.Proofs.Qxb6626922a
/- THE CELL 'sum', in the pinned program and in every row, IS THE sha256 OF THE DUMP (.gsa) THAT Qxb6626922aProg.lean LOADS. Nothing in Lean hashes anything: it is a label: what it is worth is what the hold of that sum in a sandbox is worth. -/
noncomputable def Try.pinned : Pinned := { name := "qxb6626922a", sum := "7fb66faf388e91a1bc9ef2f6f5fe95345e81e7428e7dc2d66b6f04120a4647fd", checked := Try.checked }
namespace Rows
def none {H : Type} : Left H := { results := [], args := [] }

/-- 'zzlaws_internal_history_b1.FnIndexAddMatchesFirstOccurrenceModel': WHATEVER THE INPUT: true; the input reads as it did. -/
def fnIndexAddMatchesFirstOccurrenceModelSpec : ChangeSpec := { name := "fnIndexAddMatchesFirstOccurrenceModel", fn := fun _ => fun
  | [d] => { results := [.lit (.bool true)], args := [d] }
  | _ => none }
def fnIndexAddMatchesFirstOccurrenceModelRow : OpenClaim := { program := "qxb6626922a", sum := "7fb66faf388e91a1bc9ef2f6f5fe95345e81e7428e7dc2d66b6f04120a4647fd", func := "example.com/bosporus/bosporus/zzlaws_internal_history_b1.FnIndexAddMatchesFirstOccurrenceModel", spec := "fnIndexAddMatchesFirstOccurrenceModel", plainKeys := false, apart := false }
def FnIndexAddMatchesFirstOccurrenceModelSaid : Prop := fnIndexAddMatchesFirstOccurrenceModelRow.holds Try.pinned (OpenSpec.ofChange fnIndexAddMatchesFirstOccurrenceModelSpec)

/-- ITS FALSE NEIGHBOUR: 'it returns false'. Refute it at one input. -/
def fnIndexAddMatchesFirstOccurrenceModelWrong : ChangeSpec := { name := "fnIndexAddMatchesFirstOccurrenceModel", fn := fun _ => fun
  | [d] => { results := [.lit (.bool false)], args := [d] }
  | _ => none }
def FnIndexAddMatchesFirstOccurrenceModelWrongFalsely : Prop := fnIndexAddMatchesFirstOccurrenceModelRow.holds Try.pinned (OpenSpec.ofChange fnIndexAddMatchesFirstOccurrenceModelWrong)

/-- 'zzlaws_internal_history_b1.FnIndexAddReplayIsStableAndNextIsCountPlusOne': WHATEVER THE INPUT: true; the input reads as it did. -/
def fnIndexAddReplayIsStableAndNextIsCountPlusOneSpec : ChangeSpec := { name := "fnIndexAddReplayIsStableAndNextIsCountPlusOne", fn := fun _ => fun
  | [d1, d2] => { results := [.lit (.bool true)], args := [d1, d2] }
  | _ => none }
def fnIndexAddReplayIsStableAndNextIsCountPlusOneRow : OpenClaim := { program := "qxb6626922a", sum := "7fb66faf388e91a1bc9ef2f6f5fe95345e81e7428e7dc2d66b6f04120a4647fd", func := "example.com/bosporus/bosporus/zzlaws_internal_history_b1.FnIndexAddReplayIsStableAndNextIsCountPlusOne", spec := "fnIndexAddReplayIsStableAndNextIsCountPlusOne", plainKeys := false, apart := false }
def FnIndexAddReplayIsStableAndNextIsCountPlusOneSaid : Prop := fnIndexAddReplayIsStableAndNextIsCountPlusOneRow.holds Try.pinned (OpenSpec.ofChange fnIndexAddReplayIsStableAndNextIsCountPlusOneSpec)

/-- ITS FALSE NEIGHBOUR: 'it returns false'. Refute it at one input. -/
def fnIndexAddReplayIsStableAndNextIsCountPlusOneWrong : ChangeSpec := { name := "fnIndexAddReplayIsStableAndNextIsCountPlusOne", fn := fun _ => fun
  | [d1, d2] => { results := [.lit (.bool false)], args := [d1, d2] }
  | _ => none }
def FnIndexAddReplayIsStableAndNextIsCountPlusOneWrongFalsely : Prop := fnIndexAddReplayIsStableAndNextIsCountPlusOneRow.holds Try.pinned (OpenSpec.ofChange fnIndexAddReplayIsStableAndNextIsCountPlusOneWrong)

end Rows
end Go.Proofs.Qxb6626922a
