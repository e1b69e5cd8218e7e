import Derived.Test.Qxb6614331aRows
import Derived.WalkKit
import Derived.WalkLawsBesides
import Derived.Below
namespace Go.Proofs.Qxb6614331a
open Go.RowKit

/-- Retired or forgotten? -/
def goneB (s : ByteArray) : Bool := (s.toList == [114, 101, 116, 105, 114, 101, 100]) || (s.toList == [102, 111, 114, 103, 111, 116, 116, 101, 110])

theorem rb {a b : Bool} (h : a = b) : Ending.returned (.bool a) = .returned (.bool b) := by rw [h]

set_option maxHeartbeats 400000 in
theorem gone_any (s : ByteArray) (w : World) : Calls Try.prog 9 #[.string s] w fun e w' => e = .returned (.bool (goneB s)) ∧ w = w' := by
  unfold goneB
  cases h1 : (s.toList == [114, 101, 116, 105, 114, 101, 100]) with
  | true =>
    go_enter Try.func9, Try.ntmps9
    go_wp2
    go_ret
    exact ⟨rfl, rfl⟩
  | false =>
    cases h2 : (s.toList == [102, 111, 114, 103, 111, 116, 116, 101, 110]) with
    | true =>
      go_enter Try.func9, Try.ntmps9
      go_wp2
      go_ret
      exact ⟨rfl, rfl⟩
    | false =>
      go_enter Try.func9, Try.ntmps9
      go_wp2
      go_ret
      exact ⟨rfl, rfl⟩

set_option maxHeartbeats 1000000 in
theorem untold_any (p n : ByteArray) : ∃ b : Bool, ∀ w, Calls Try.prog 12 #[.string p, .string n] w fun e w' => e = .returned (.bool b) ∧ w = w' := by
  cases h1 : (p.toList == [114, 101, 116, 105, 114, 101, 100]) <;> cases h2 : (n.toList == [102, 111, 114, 103, 111, 116, 116, 101, 110]) <;> cases h3 : (p.toList.isEmpty) <;> cases h4 : (n.toList == [111, 102, 102, 108, 105, 110, 101])
  all_goals exact ⟨_, fun w => by go_enter Try.func12, Try.ntmps12; go_wp2; go_ret; exact ⟨rfl, rfl⟩⟩

set_option maxHeartbeats 1000000 in
theorem change_any (p n : ByteArray) : ∃ s : ByteArray, ∀ w, Calls Try.prog 13 #[.string p, .string n] w fun e w' => e = .returned (.string s) ∧ w = w' := by
  cases h1 : (n.toList == [102, 111, 114, 103, 111, 116, 116, 101, 110]) with
  | true => exact ⟨_, fun w => by go_enter Try.func13, Try.ntmps13; go_wp2; go_ret; exact ⟨rfl, rfl⟩⟩
  | false =>
  cases h2 : (n.toList == [114, 101, 116, 105, 114, 101, 100]) with
  | true => exact ⟨_, fun w => by go_enter Try.func13, Try.ntmps13; go_wp2; go_ret; exact ⟨rfl, rfl⟩⟩
  | false =>
  cases h3 : (n.toList == [111, 102, 102, 108, 105, 110, 101]) with
  | true => exact ⟨_, fun w => by go_enter Try.func13, Try.ntmps13; go_wp2; go_ret; exact ⟨rfl, rfl⟩⟩
  | false =>
  cases h4 : p.toList.isEmpty with
  | true => exact ⟨_, fun w => by go_enter Try.func13, Try.ntmps13; go_wp2; go_ret; exact ⟨rfl, rfl⟩⟩
  | false =>
  cases h5 : (p.toList == [111, 102, 102, 108, 105, 110, 101]) with
  | true => exact ⟨_, fun w => by go_enter Try.func13, Try.ntmps13; go_wp2; go_ret; exact ⟨rfl, rfl⟩⟩
  | false =>
  cases h6 : (p.toList == [114, 101, 116, 105, 114, 101, 100]) with
  | true => exact ⟨_, fun w => by go_enter Try.func13, Try.ntmps13; go_wp2; go_ret; exact ⟨rfl, rfl⟩⟩
  | false => exact ⟨_, fun w => by go_enter Try.func13, Try.ntmps13; go_wp2; go_ret; exact ⟨rfl, rfl⟩⟩

end Go.Proofs.Qxb6614331a
