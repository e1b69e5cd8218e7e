/-
  No cell of these rows narrows 'for every input' (looked for: loops, veiled, ifaces, maps, wideKeys, modest, calm, conditions, laid).
  DERIVED. THE GIVEN ROWS OF THIS SEAT. 2 by the template 'for every input the law returns true; each argument reads behind the call as it read before'; 0 by the template 'total and deterministic' (their statements: Qxb6614252aTotals.lean).
  GIVEN WITH THE SEED: the statements are not yours to turn. If you find one false, say at which input.
  Laid BY PROGRAM, IN A SANDBOX (cutbox-rows.mjs): the forced cells as the released guide's own fill.sh prints them over the translation b29a48b28693e156… (all of the seat's roots in one cut). By AI agents, Wed Nov 11 2026. No macro, syntax, notation, axiom, sorry.
-/
import Derived.Test.Qxb6614252aChecked
import GoSem.Claim
import GoSem.ClaimJoined
import GoSem.ClaimMapViews
import Derived.JoinedTies
import Derived.KernelRfl
namespace Go.Proofs.Qxb6614252a
/- THE CELL 'sum', in the pinned program and in every row, IS THE sha256 OF THE DUMP (.gsa) THAT Qxb6614252aProg.lean LOADS. Nothing in Lean hashes anything: it is a label: what it is worth is what the hold of that sum in a sandbox is worth. -/
noncomputable def Try.pinned : Pinned := { name := "qxb6614252a", sum := "b29a48b28693e156170c0bb3dbc47b7b78b6ae75d86a78018623c533944f04d6", checked := Try.checked }
namespace Rows
def none {H : Type} : Left H := { results := [], args := [] }

/-- 'zzlaws_internal_debitcredit_b1.FnSlotsPlaceEveryBalanceApart': WHATEVER THE INPUT: true; the input reads as it did. -/
def fnSlotsPlaceEveryBalanceApartSpec : ChangeSpec := { name := "fnSlotsPlaceEveryBalanceApart", fn := fun _ => fun
  | [d1, d2, d3, d4, d5, d6, d7, d8, d9, d10, d11] => { results := [.lit (.bool true)], args := [d1, d2, d3, d4, d5, d6, d7, d8, d9, d10, d11] }
  | _ => none }
def fnSlotsPlaceEveryBalanceApartRow : OpenClaim := { program := "qxb6614252a", sum := "b29a48b28693e156170c0bb3dbc47b7b78b6ae75d86a78018623c533944f04d6", func := "example.com/latchkey/latchkey/zzlaws_internal_debitcredit_b1.FnSlotsPlaceEveryBalanceApart", spec := "fnSlotsPlaceEveryBalanceApart", apart := false }
def FnSlotsPlaceEveryBalanceApartSaid : Prop := fnSlotsPlaceEveryBalanceApartRow.holds Try.pinned (OpenSpec.ofChange fnSlotsPlaceEveryBalanceApartSpec)

/-- ITS FALSE NEIGHBOUR: 'it returns false'. Refute it at one input. -/
def fnSlotsPlaceEveryBalanceApartWrong : ChangeSpec := { name := "fnSlotsPlaceEveryBalanceApart", fn := fun _ => fun
  | [d1, d2, d3, d4, d5, d6, d7, d8, d9, d10, d11] => { results := [.lit (.bool false)], args := [d1, d2, d3, d4, d5, d6, d7, d8, d9, d10, d11] }
  | _ => none }
def FnSlotsPlaceEveryBalanceApartWrongFalsely : Prop := fnSlotsPlaceEveryBalanceApartRow.holds Try.pinned (OpenSpec.ofChange fnSlotsPlaceEveryBalanceApartWrong)

/-- 'zzlaws_internal_debitcredit_b1.FnSlotsMoveOnlyHotBalancesAsStoreGrows': WHATEVER THE INPUT: true; the input reads as it did. -/
def fnSlotsMoveOnlyHotBalancesAsStoreGrowsSpec : ChangeSpec := { name := "fnSlotsMoveOnlyHotBalancesAsStoreGrows", fn := fun _ => fun
  | [d1, d2, d3, d4, d5, d6, d7, d8, d9] => { results := [.lit (.bool true)], args := [d1, d2, d3, d4, d5, d6, d7, d8, d9] }
  | _ => none }
def fnSlotsMoveOnlyHotBalancesAsStoreGrowsRow : OpenClaim := { program := "qxb6614252a", sum := "b29a48b28693e156170c0bb3dbc47b7b78b6ae75d86a78018623c533944f04d6", func := "example.com/latchkey/latchkey/zzlaws_internal_debitcredit_b1.FnSlotsMoveOnlyHotBalancesAsStoreGrows", spec := "fnSlotsMoveOnlyHotBalancesAsStoreGrows", apart := false }
def FnSlotsMoveOnlyHotBalancesAsStoreGrowsSaid : Prop := fnSlotsMoveOnlyHotBalancesAsStoreGrowsRow.holds Try.pinned (OpenSpec.ofChange fnSlotsMoveOnlyHotBalancesAsStoreGrowsSpec)

/-- ITS FALSE NEIGHBOUR: 'it returns false'. Refute it at one input. -/
def fnSlotsMoveOnlyHotBalancesAsStoreGrowsWrong : ChangeSpec := { name := "fnSlotsMoveOnlyHotBalancesAsStoreGrows", fn := fun _ => fun
  | [d1, d2, d3, d4, d5, d6, d7, d8, d9] => { results := [.lit (.bool false)], args := [d1, d2, d3, d4, d5, d6, d7, d8, d9] }
  | _ => none }
def FnSlotsMoveOnlyHotBalancesAsStoreGrowsWrongFalsely : Prop := fnSlotsMoveOnlyHotBalancesAsStoreGrowsRow.holds Try.pinned (OpenSpec.ofChange fnSlotsMoveOnlyHotBalancesAsStoreGrowsWrong)

end Rows
end Go.Proofs.Qxb6614252a
