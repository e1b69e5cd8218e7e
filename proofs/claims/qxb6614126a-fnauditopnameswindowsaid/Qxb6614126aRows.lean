/-
  No cell of these rows narrows 'for every input' (looked for: loops, veiled, ifaces, maps, wideKeys, modest, calm, conditions, laid).
  DERIVED. THE GIVEN ROWS OF THIS SEAT. 1 by the template 'for every input the law returns true; each argument reads behind the call as it read before'; 0 by the template 'total and deterministic' (their statements: Qxb6614126aTotals.lean).
  GIVEN WITH THE SEED: the statements are not yours to turn. If you find one false, say at which input.
  Laid BY PROGRAM, IN A SANDBOX (cutbox-rows.mjs): the forced cells as the released guide's own fill.sh prints them over the translation a71fb7a0f12074cb… (all of the seat's roots in one cut). By AI agents, Wed Nov 11 2026. No macro, syntax, notation, axiom, sorry.
-/
import Derived.Test.Qxb6614126aChecked
import GoSem.Claim
import GoSem.ClaimJoined
import GoSem.ClaimMapViews
import Derived.JoinedTies
import Derived.KernelRfl
namespace Go.Proofs.Qxb6614126a
/- THE CELL 'sum', in the pinned program and in every row, IS THE sha256 OF THE DUMP (.gsa) THAT Qxb6614126aProg.lean LOADS. Nothing in Lean hashes anything: it is a label: what it is worth is what the hold of that sum in a sandbox is worth. -/
noncomputable def Try.pinned : Pinned := { name := "qxb6614126a", sum := "a71fb7a0f12074cb96b8d3a529e70e0d67884a751a414ff435009c791b923cd0", checked := Try.checked }
namespace Rows
def none {H : Type} : Left H := { results := [], args := [] }

/-- 'zzlaws_store_b1.FnAuditOpNamesWindow': WHATEVER THE INPUT: true; the input reads as it did. -/
def fnAuditOpNamesWindowSpec : ChangeSpec := { name := "fnAuditOpNamesWindow", fn := fun _ => fun
  | [d1, d2] => { results := [.lit (.bool true)], args := [d1, d2] }
  | _ => none }
def fnAuditOpNamesWindowRow : OpenClaim := { program := "qxb6614126a", sum := "a71fb7a0f12074cb96b8d3a529e70e0d67884a751a414ff435009c791b923cd0", func := "example.com/libgrant/libgrant/zzlaws_store_b1.FnAuditOpNamesWindow", spec := "fnAuditOpNamesWindow", apart := false }
def FnAuditOpNamesWindowSaid : Prop := fnAuditOpNamesWindowRow.holds Try.pinned (OpenSpec.ofChange fnAuditOpNamesWindowSpec)

/-- ITS FALSE NEIGHBOUR: 'it returns false'. Refute it at one input. -/
def fnAuditOpNamesWindowWrong : ChangeSpec := { name := "fnAuditOpNamesWindow", fn := fun _ => fun
  | [d1, d2] => { results := [.lit (.bool false)], args := [d1, d2] }
  | _ => none }
def FnAuditOpNamesWindowWrongFalsely : Prop := fnAuditOpNamesWindowRow.holds Try.pinned (OpenSpec.ofChange fnAuditOpNamesWindowWrong)

end Rows
end Go.Proofs.Qxb6614126a
