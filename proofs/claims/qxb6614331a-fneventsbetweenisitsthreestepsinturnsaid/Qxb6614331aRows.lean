/-
  No cell of these rows narrows 'for every input' (looked for: loops, veiled, ifaces, maps, wideKeys, modest, calm, conditions, laid).
  DERIVED. THE GIVEN ROWS OF THIS SEAT. 1 by the template 'for every input the law returns true; each argument reads behind the call as it read before'; 0 by the template 'total and deterministic' (their statements: Qxb6614331aTotals.lean).
  GIVEN WITH THE SEED: the statements are not yours to turn. If you find one false, say at which input.
  Laid BY PROGRAM, IN A SANDBOX (cutbox-rows.mjs): the forced cells as the released guide's own fill.sh prints them over the translation d97f9b8ecb0121ea… (all of the seat's roots in one cut). By AI agents, Wed Nov 11 2026. No macro, syntax, notation, axiom, sorry.
-/
import Derived.Test.Qxb6614331aChecked
import GoSem.Claim
import GoSem.ClaimJoined
import GoSem.ClaimMapViews
import Derived.JoinedTies
import Derived.KernelRfl
namespace Go.Proofs.Qxb6614331a
/- THE CELL 'sum', in the pinned program and in every row, IS THE sha256 OF THE DUMP (.gsa) THAT Qxb6614331aProg.lean LOADS. Nothing in Lean hashes anything: it is a label: what it is worth is what the hold of that sum in a sandbox is worth. -/
noncomputable def Try.pinned : Pinned := { name := "qxb6614331a", sum := "d97f9b8ecb0121ea32a1c66097c7a5d7e40967b8b617d87623493864579644b5", checked := Try.checked }
namespace Rows
def none {H : Type} : Left H := { results := [], args := [] }

/-- 'zzlaws_internal_roster_b1.FnEventsBetweenIsItsThreeStepsInTurn': WHATEVER THE INPUT: true; the input reads as it did. -/
def fnEventsBetweenIsItsThreeStepsInTurnSpec : ChangeSpec := { name := "fnEventsBetweenIsItsThreeStepsInTurn", fn := fun _ => fun
  | [d1, d2, d3, d4, d5, d6] => { results := [.lit (.bool true)], args := [d1, d2, d3, d4, d5, d6] }
  | _ => none }
def fnEventsBetweenIsItsThreeStepsInTurnRow : OpenClaim := { program := "qxb6614331a", sum := "d97f9b8ecb0121ea32a1c66097c7a5d7e40967b8b617d87623493864579644b5", func := "example.com/lasting-roster/lasting-roster/zzlaws_internal_roster_b1.FnEventsBetweenIsItsThreeStepsInTurn", spec := "fnEventsBetweenIsItsThreeStepsInTurn", apart := false }
def FnEventsBetweenIsItsThreeStepsInTurnSaid : Prop := fnEventsBetweenIsItsThreeStepsInTurnRow.holds Try.pinned (OpenSpec.ofChange fnEventsBetweenIsItsThreeStepsInTurnSpec)

/-- ITS FALSE NEIGHBOUR: 'it returns false'. Refute it at one input. -/
def fnEventsBetweenIsItsThreeStepsInTurnWrong : ChangeSpec := { name := "fnEventsBetweenIsItsThreeStepsInTurn", fn := fun _ => fun
  | [d1, d2, d3, d4, d5, d6] => { results := [.lit (.bool false)], args := [d1, d2, d3, d4, d5, d6] }
  | _ => none }
def FnEventsBetweenIsItsThreeStepsInTurnWrongFalsely : Prop := fnEventsBetweenIsItsThreeStepsInTurnRow.holds Try.pinned (OpenSpec.ofChange fnEventsBetweenIsItsThreeStepsInTurnWrong)

end Rows
end Go.Proofs.Qxb6614331a
