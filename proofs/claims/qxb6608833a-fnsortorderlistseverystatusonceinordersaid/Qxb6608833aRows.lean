/-
  No cell of these rows narrows 'for every input' (looked for: loops, veiled, ifaces, maps, wideKeys, modest, calm, conditions, laid).
  DERIVED. THE GIVEN ROWS OF THIS SEAT. 6 by the template 'for every input the law returns true; each argument reads behind the call as it read before'; 0 by the template 'total and deterministic' (their statements: Qxb6608833aTotals.lean).
  GIVEN WITH THE SEED: the statements are not yours to turn. If you find one false, say at which input.
  Laid BY PROGRAM, IN A SANDBOX (cutbox-rows.mjs): the forced cells as the released guide's own fill.sh prints them over the translation ce6dd419bbf317b5… (all of the seat's roots in one cut). By AI agents, Wed Nov 11 2026. No macro, syntax, notation, axiom, sorry.
-/
import Derived.Test.Qxb6608833aChecked
import GoSem.Claim
import GoSem.ClaimJoined
import GoSem.ClaimMapViews
import Derived.JoinedTies
import Derived.KernelRfl
namespace Go.Proofs.Qxb6608833a
/- THE CELL 'sum', in the pinned program and in every row, IS THE sha256 OF THE DUMP (.gsa) THAT Qxb6608833aProg.lean LOADS. Nothing in Lean hashes anything: it is a label: what it is worth is what the hold of that sum in a sandbox is worth. -/
noncomputable def Try.pinned : Pinned := { name := "qxb6608833a", sum := "ce6dd419bbf317b59a6e9a38f4be7836fb063bb8af1d7a1f60a60de5b3ed4a41", checked := Try.checked }
namespace Rows
def none {H : Type} : Left H := { results := [], args := [] }

/-- 'zzlaws_internal_board_b1.FnWorstSplitsAtAnyCut': WHATEVER THE INPUT: true; the input reads as it did. -/
def fnWorstSplitsAtAnyCutSpec : ChangeSpec := { name := "fnWorstSplitsAtAnyCut", fn := fun _ => fun
  | [d1, d2] => { results := [.lit (.bool true)], args := [d1, d2] }
  | _ => none }
def fnWorstSplitsAtAnyCutRow : OpenClaim := { program := "qxb6608833a", sum := "ce6dd419bbf317b59a6e9a38f4be7836fb063bb8af1d7a1f60a60de5b3ed4a41", func := "example.com/greenboard/greenboard/zzlaws_internal_board_b1.FnWorstSplitsAtAnyCut", spec := "fnWorstSplitsAtAnyCut", unfollowed := true, recurses := true, plainKeys := false, apart := false }
def FnWorstSplitsAtAnyCutSaid : Prop := fnWorstSplitsAtAnyCutRow.holds Try.pinned (OpenSpec.ofChange fnWorstSplitsAtAnyCutSpec)

/-- ITS FALSE NEIGHBOUR: 'it returns false'. Refute it at one input. -/
def fnWorstSplitsAtAnyCutWrong : ChangeSpec := { name := "fnWorstSplitsAtAnyCut", fn := fun _ => fun
  | [d1, d2] => { results := [.lit (.bool false)], args := [d1, d2] }
  | _ => none }
def FnWorstSplitsAtAnyCutWrongFalsely : Prop := fnWorstSplitsAtAnyCutRow.holds Try.pinned (OpenSpec.ofChange fnWorstSplitsAtAnyCutWrong)

/-- 'zzlaws_internal_board_b1.FnWorstTakesAnInsertedColour': WHATEVER THE INPUT: true; the input reads as it did. -/
def fnWorstTakesAnInsertedColourSpec : ChangeSpec := { name := "fnWorstTakesAnInsertedColour", fn := fun _ => fun
  | [d1, d2, d3] => { results := [.lit (.bool true)], args := [d1, d2, d3] }
  | _ => none }
def fnWorstTakesAnInsertedColourRow : OpenClaim := { program := "qxb6608833a", sum := "ce6dd419bbf317b59a6e9a38f4be7836fb063bb8af1d7a1f60a60de5b3ed4a41", func := "example.com/greenboard/greenboard/zzlaws_internal_board_b1.FnWorstTakesAnInsertedColour", spec := "fnWorstTakesAnInsertedColour", unfollowed := true, recurses := true, plainKeys := false, apart := false }
def FnWorstTakesAnInsertedColourSaid : Prop := fnWorstTakesAnInsertedColourRow.holds Try.pinned (OpenSpec.ofChange fnWorstTakesAnInsertedColourSpec)

/-- ITS FALSE NEIGHBOUR: 'it returns false'. Refute it at one input. -/
def fnWorstTakesAnInsertedColourWrong : ChangeSpec := { name := "fnWorstTakesAnInsertedColour", fn := fun _ => fun
  | [d1, d2, d3] => { results := [.lit (.bool false)], args := [d1, d2, d3] }
  | _ => none }
def FnWorstTakesAnInsertedColourWrongFalsely : Prop := fnWorstTakesAnInsertedColourRow.holds Try.pinned (OpenSpec.ofChange fnWorstTakesAnInsertedColourWrong)

/-- 'zzlaws_internal_board_b1.FnSortOrderListsEveryStatusOnceInOrder': WHATEVER THE INPUT: true; the input reads as it did. -/
def fnSortOrderListsEveryStatusOnceInOrderSpec : ChangeSpec := { name := "fnSortOrderListsEveryStatusOnceInOrder", fn := fun _ => fun
  | [d1, d2] => { results := [.lit (.bool true)], args := [d1, d2] }
  | _ => none }
def fnSortOrderListsEveryStatusOnceInOrderRow : OpenClaim := { program := "qxb6608833a", sum := "ce6dd419bbf317b59a6e9a38f4be7836fb063bb8af1d7a1f60a60de5b3ed4a41", func := "example.com/greenboard/greenboard/zzlaws_internal_board_b1.FnSortOrderListsEveryStatusOnceInOrder", spec := "fnSortOrderListsEveryStatusOnceInOrder", inPlace := ["(*sync.RWMutex).Lock", "internal/race.Read", "internal/race.Disable", "(*internal/sync.Mutex).Lock", "sync/atomic.CompareAndSwapInt32", "internal/race.Enable", "internal/race.Acquire", "(*internal/sync.Mutex).lockSlow", "internal/sync.runtime_canSpin", "internal/sync.runtime_doSpin", "internal/sync.throw", "internal/sync.runtime_nanotime", "internal/sync.runtime_SemacquireMutex", "sync/atomic.AddInt32", "sync.runtime_SemacquireRWMutex", "internal/bytealg.abigen_runtime_cmpstring", "(*sync.RWMutex).Unlock", "internal/race.Release", "internal/race.ReleaseMerge", "sync.fatal", "sync.runtime_Semrelease", "(*internal/sync.Mutex).Unlock", "(*internal/sync.Mutex).unlockSlow", "internal/sync.fatal", "internal/sync.runtime_Semrelease", "(*sync.RWMutex).RLock", "sync.runtime_SemacquireRWMutexR", "(*sync.RWMutex).RUnlock", "(*sync.RWMutex).rUnlockSlow"], unfollowed := true, recurses := true, plainKeys := false, apart := false }
def FnSortOrderListsEveryStatusOnceInOrderSaid : Prop := fnSortOrderListsEveryStatusOnceInOrderRow.holds Try.pinned (OpenSpec.ofChange fnSortOrderListsEveryStatusOnceInOrderSpec)

/-- ITS FALSE NEIGHBOUR: 'it returns false'. Refute it at one input. -/
def fnSortOrderListsEveryStatusOnceInOrderWrong : ChangeSpec := { name := "fnSortOrderListsEveryStatusOnceInOrder", fn := fun _ => fun
  | [d1, d2] => { results := [.lit (.bool false)], args := [d1, d2] }
  | _ => none }
def FnSortOrderListsEveryStatusOnceInOrderWrongFalsely : Prop := fnSortOrderListsEveryStatusOnceInOrderRow.holds Try.pinned (OpenSpec.ofChange fnSortOrderListsEveryStatusOnceInOrderWrong)

/-- 'zzlaws_internal_board_b1.FnSortOrderPlacesAnAddedStatus': WHATEVER THE INPUT: true; the input reads as it did. -/
def fnSortOrderPlacesAnAddedStatusSpec : ChangeSpec := { name := "fnSortOrderPlacesAnAddedStatus", fn := fun _ => fun
  | [d1, d2, d3] => { results := [.lit (.bool true)], args := [d1, d2, d3] }
  | _ => none }
def fnSortOrderPlacesAnAddedStatusRow : OpenClaim := { program := "qxb6608833a", sum := "ce6dd419bbf317b59a6e9a38f4be7836fb063bb8af1d7a1f60a60de5b3ed4a41", func := "example.com/greenboard/greenboard/zzlaws_internal_board_b1.FnSortOrderPlacesAnAddedStatus", spec := "fnSortOrderPlacesAnAddedStatus", inPlace := ["(*sync.RWMutex).Lock", "internal/race.Read", "internal/race.Disable", "(*internal/sync.Mutex).Lock", "sync/atomic.CompareAndSwapInt32", "internal/race.Enable", "internal/race.Acquire", "(*internal/sync.Mutex).lockSlow", "internal/sync.runtime_canSpin", "internal/sync.runtime_doSpin", "internal/sync.throw", "internal/sync.runtime_nanotime", "internal/sync.runtime_SemacquireMutex", "sync/atomic.AddInt32", "sync.runtime_SemacquireRWMutex", "internal/bytealg.abigen_runtime_cmpstring", "(*sync.RWMutex).Unlock", "internal/race.Release", "internal/race.ReleaseMerge", "sync.fatal", "sync.runtime_Semrelease", "(*internal/sync.Mutex).Unlock", "(*internal/sync.Mutex).unlockSlow", "internal/sync.fatal", "internal/sync.runtime_Semrelease"], unfollowed := true, recurses := true, plainKeys := false, apart := false }
def FnSortOrderPlacesAnAddedStatusSaid : Prop := fnSortOrderPlacesAnAddedStatusRow.holds Try.pinned (OpenSpec.ofChange fnSortOrderPlacesAnAddedStatusSpec)

/-- ITS FALSE NEIGHBOUR: 'it returns false'. Refute it at one input. -/
def fnSortOrderPlacesAnAddedStatusWrong : ChangeSpec := { name := "fnSortOrderPlacesAnAddedStatus", fn := fun _ => fun
  | [d1, d2, d3] => { results := [.lit (.bool false)], args := [d1, d2, d3] }
  | _ => none }
def FnSortOrderPlacesAnAddedStatusWrongFalsely : Prop := fnSortOrderPlacesAnAddedStatusRow.holds Try.pinned (OpenSpec.ofChange fnSortOrderPlacesAnAddedStatusWrong)

/-- 'zzlaws_internal_board_b1.FnTextIsTheUnpackedTextAndItsPrefixes': WHATEVER THE INPUT: true; the input reads as it did. -/
def fnTextIsTheUnpackedTextAndItsPrefixesSpec : ChangeSpec := { name := "fnTextIsTheUnpackedTextAndItsPrefixes", fn := fun _ => fun
  | [d1, d2] => { results := [.lit (.bool true)], args := [d1, d2] }
  | _ => none }
def fnTextIsTheUnpackedTextAndItsPrefixesRow : OpenClaim := { program := "qxb6608833a", sum := "ce6dd419bbf317b59a6e9a38f4be7836fb063bb8af1d7a1f60a60de5b3ed4a41", func := "example.com/greenboard/greenboard/zzlaws_internal_board_b1.FnTextIsTheUnpackedTextAndItsPrefixes", spec := "fnTextIsTheUnpackedTextAndItsPrefixes", plainKeys := false, apart := false }
def FnTextIsTheUnpackedTextAndItsPrefixesSaid : Prop := fnTextIsTheUnpackedTextAndItsPrefixesRow.holds Try.pinned (OpenSpec.ofChange fnTextIsTheUnpackedTextAndItsPrefixesSpec)

/-- ITS FALSE NEIGHBOUR: 'it returns false'. Refute it at one input. -/
def fnTextIsTheUnpackedTextAndItsPrefixesWrong : ChangeSpec := { name := "fnTextIsTheUnpackedTextAndItsPrefixes", fn := fun _ => fun
  | [d1, d2] => { results := [.lit (.bool false)], args := [d1, d2] }
  | _ => none }
def FnTextIsTheUnpackedTextAndItsPrefixesWrongFalsely : Prop := fnTextIsTheUnpackedTextAndItsPrefixesRow.holds Try.pinned (OpenSpec.ofChange fnTextIsTheUnpackedTextAndItsPrefixesWrong)

/-- 'zzlaws_internal_board_b1.FnTextReadsNothingAfterItsText': WHATEVER THE INPUT: true; the input reads as it did. -/
def fnTextReadsNothingAfterItsTextSpec : ChangeSpec := { name := "fnTextReadsNothingAfterItsText", fn := fun _ => fun
  | [d1, d2] => { results := [.lit (.bool true)], args := [d1, d2] }
  | _ => none }
def fnTextReadsNothingAfterItsTextRow : OpenClaim := { program := "qxb6608833a", sum := "ce6dd419bbf317b59a6e9a38f4be7836fb063bb8af1d7a1f60a60de5b3ed4a41", func := "example.com/greenboard/greenboard/zzlaws_internal_board_b1.FnTextReadsNothingAfterItsText", spec := "fnTextReadsNothingAfterItsText", plainKeys := false, apart := false }
def FnTextReadsNothingAfterItsTextSaid : Prop := fnTextReadsNothingAfterItsTextRow.holds Try.pinned (OpenSpec.ofChange fnTextReadsNothingAfterItsTextSpec)

/-- ITS FALSE NEIGHBOUR: 'it returns false'. Refute it at one input. -/
def fnTextReadsNothingAfterItsTextWrong : ChangeSpec := { name := "fnTextReadsNothingAfterItsText", fn := fun _ => fun
  | [d1, d2] => { results := [.lit (.bool false)], args := [d1, d2] }
  | _ => none }
def FnTextReadsNothingAfterItsTextWrongFalsely : Prop := fnTextReadsNothingAfterItsTextRow.holds Try.pinned (OpenSpec.ofChange fnTextReadsNothingAfterItsTextWrong)

end Rows
end Go.Proofs.Qxb6608833a
