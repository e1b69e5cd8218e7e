import Derived.Test.Qxb6614126aRows
import Derived.WalkKit
import Derived.Below
namespace Go.Proofs.Qxb6614126a
open Go.RowKit

set_option maxHeartbeats 400000 in
theorem names5_6 (x : Int) (h : x = 6) (w : World) : Calls Try.prog 5 #[.int .i64 x] w fun e w' => e = .returned (.tuple #[.bool false, .bool false]) ∧ w = w' := by
  subst h
  go_enter Try.func5, Try.ntmps5
  go_wp2
  go_ret2
  exact ⟨rfl, rfl⟩
set_option maxHeartbeats 400000 in
theorem names5_5 (x : Int) (h : x = 5) (w : World) : Calls Try.prog 5 #[.int .i64 x] w fun e w' => e = .returned (.tuple #[.bool true, .bool false]) ∧ w = w' := by
  subst h
  go_enter Try.func5, Try.ntmps5
  go_wp2
  go_ret2
  exact ⟨rfl, rfl⟩
set_option maxHeartbeats 400000 in
theorem names5_o (x : Int) (h5 : x ≠ 5) (h6 : x ≠ 6) (w : World) : Calls Try.prog 5 #[.int .i64 x] w fun e w' => e = .returned (.tuple #[.bool true, .bool true]) ∧ w = w' := by
  have b5 : (x != 5) = true := by rw [bne_iff_ne]; exact h5
  have b6 : (x != 6) = true := by rw [bne_iff_ne]; exact h6
  go_enter Try.func5, Try.ntmps5
  go_wp2
  go_ret2
  exact ⟨rfl, rfl⟩

set_option maxHeartbeats 400000 in
theorem names_6 (x : Int) (h : x = 6) (w : World) : Calls Try.prog 4 #[.int .i64 x] w fun e w' => e = .returned (.tuple #[.bool false, .bool false]) ∧ w = w' := by
  have H : Hid (x = 6) := h
  clear h
  go_enter Try.func4, Try.ntmps4
  go_wp2_with (go_at_call 5; refine (names5_6 _ H.out _).mono ?_; rintro e w' ⟨rfl, rfl⟩)
  go_ret2
  exact ⟨rfl, rfl⟩
set_option maxHeartbeats 400000 in
theorem names_5 (x : Int) (h : x = 5) (w : World) : Calls Try.prog 4 #[.int .i64 x] w fun e w' => e = .returned (.tuple #[.bool true, .bool false]) ∧ w = w' := by
  have H : Hid (x = 5) := h
  clear h
  go_enter Try.func4, Try.ntmps4
  go_wp2_with (go_at_call 5; refine (names5_5 _ H.out _).mono ?_; rintro e w' ⟨rfl, rfl⟩)
  go_ret2
  exact ⟨rfl, rfl⟩
set_option maxHeartbeats 400000 in
theorem names_o (x : Int) (h5 : x ≠ 5) (h6 : x ≠ 6) (w : World) : Calls Try.prog 4 #[.int .i64 x] w fun e w' => e = .returned (.tuple #[.bool true, .bool true]) ∧ w = w' := by
  go_enter Try.func4, Try.ntmps4
  go_wp2_with (go_at_call 5; refine (names5_o _ h5 h6 _).mono ?_; rintro e w' ⟨rfl, rfl⟩)
  go_ret2
  exact ⟨rfl, rfl⟩

/-- Does v lie among lo, .., lo + k - 1? -/
def ind (v lo k : Int) : Int := if lo ≤ v ∧ v < lo + k then 1 else 0
theorem ind_bd (v lo k : Int) : 0 ≤ ind v lo k ∧ ind v lo k ≤ 1 := by unfold ind; split <;> omega
theorem ind_zero (v lo : Int) : ind v lo 0 = 0 := by unfold ind; rw [if_neg (by omega)]
theorem ind_hit (v lo k : Int) (_hk : 0 ≤ k) (h : lo + k = v) : ind v lo k = 0 ∧ ind v lo (k + 1) = 1 := by
  unfold ind; rw [if_neg (by omega), if_pos (by omega)]; exact ⟨rfl, rfl⟩
theorem ind_miss (v lo k : Int) (_hk : 0 ≤ k) (h : lo + k ≠ v) : ind v lo (k + 1) = ind v lo k := by
  unfold ind
  by_cases c : lo ≤ v ∧ v < lo + k
  · rw [if_pos c, if_pos (by omega)]
  · rw [if_neg c, if_neg (by omega)]
theorem ind_yes (v lo k : Int) (h1 : lo ≤ v) (h2 : v < lo + k) : ind v lo k = 1 := by unfold ind; rw [if_pos ⟨h1, h2⟩]
theorem ind_no (v lo k : Int) (h : ¬ (lo ≤ v ∧ v < lo + k)) : ind v lo k = 0 := by unfold ind; rw [if_neg h]

theorem vi {a b : Int} (h : a = b) : Value.int .i64 a = .int .i64 b := by rw [h]
theorem ri {a b : Bool} (h : a = b) : Ending.returned (.bool a) = .returned (.bool b) := by rw [h]

set_option maxRecDepth 100000 in
set_option maxHeartbeats 1000000 in
theorem main_walk (lo : Int) (n : Nat) (w : World) (hn : n ≤ 65536) (hlo : -9223372036854775808 ≤ lo) (hhi : lo ≤ 9223372036854775807 - (n : Int)) :
    Calls Try.prog 3 #[.int .i64 lo, .int .i64 n] w fun e w' => e = .returned (.bool true) ∧ w = w' := by
  have d1 : decide ((n : Int) < 0) = false := decide_eq_false (by omega)
  have d2 : decide ((65536 : Int) < (n : Int)) = false := decide_eq_false (by omega)
  have d3 : decide (9223372036854775807 - (n : Int) < lo) = false := decide_eq_false (by omega)
  go_enter Try.func3, Try.ntmps3
  go_wp2
  go_loop [7, 8, 9, 10] (fun a b c i => ∃ k : Nat, k ≤ n ∧ i = .int .i64 k ∧ a = .int .i64 (ind 6 lo k) ∧ b = .int .i64 (ind 6 lo k + ind 5 lo k) ∧ c = .int .i64 (k - (ind 6 lo k + ind 5 lo k))) (fun _ _ _ i => n - (intOf i).toNat)
  case atStart => exact ⟨0, Nat.zero_le _, rfl, by rw [show ((0 : Nat) : Int) = 0 from rfl, ind_zero], by rw [show ((0 : Nat) : Int) = 0 from rfl, ind_zero, ind_zero]; rfl, by rw [show ((0 : Nat) : Int) = 0 from rfl, ind_zero, ind_zero]; rfl⟩
  case round =>
    obtain ⟨k, hk, rfl, rfl, rfl, rfl⟩ := hrel
    have b6 := ind_bd 6 lo k
    have b5 := ind_bd 5 lo k
    by_cases hlt : k < n
    · by_cases h6 : lo + (k : Int) = 6
      · have f6 := ind_hit 6 lo k (by omega) h6
        have f5 := ind_miss 5 lo k (by omega) (by omega)
        generalize ind 6 lo (k : Int) = p at *
        generalize ind 5 lo (k : Int) = g at *
        have H6 : Hid (p = 0 ∧ ind 6 lo ((k + 1 : Nat) : Int) = 1) := by rw [Int.natCast_succ]; exact f6
        have H5 : Hid (ind 5 lo ((k + 1 : Nat) : Int) = g) := by rw [Int.natCast_succ]; exact f5
        have Hx : Hid (lo + (k : Int) = 6) := h6
        clear f6 f5 h6
        go_wp2_with (go_at_call 4; refine (names_6 _ Hx.out _).mono ?_; rintro e w' ⟨rfl, rfl⟩)
        go_round
        case rel => exact ⟨k + 1, by omega, by go_num, vi (by have := H6.out; have := H5.out; omega), vi (by have := H6.out; have := H5.out; omega), vi (by have := H6.out; have := H5.out; omega)⟩
        case measure => simp [intOf]; omega
      · by_cases h5 : lo + (k : Int) = 5
        · have f5 := ind_hit 5 lo k (by omega) h5
          have f6 := ind_miss 6 lo k (by omega) (by omega)
          generalize ind 6 lo (k : Int) = p at *
          generalize ind 5 lo (k : Int) = g at *
          have H5 : Hid (g = 0 ∧ ind 5 lo ((k + 1 : Nat) : Int) = 1) := by rw [Int.natCast_succ]; exact f5
          have H6 : Hid (ind 6 lo ((k + 1 : Nat) : Int) = p) := by rw [Int.natCast_succ]; exact f6
          have Hx : Hid (lo + (k : Int) = 5) := h5
          clear f6 f5 h6 h5
          go_wp2_with (go_at_call 4; refine (names_5 _ Hx.out _).mono ?_; rintro e w' ⟨rfl, rfl⟩)
          go_round
          case rel => exact ⟨k + 1, by omega, by go_num, vi (by have := H6.out; have := H5.out; omega), vi (by have := H6.out; have := H5.out; omega), vi (by have := H6.out; have := H5.out; omega)⟩
          case measure => simp [intOf]; omega
        · have f5 := ind_miss 5 lo k (by omega) h5
          have f6 := ind_miss 6 lo k (by omega) h6
          generalize ind 6 lo (k : Int) = p at *
          generalize ind 5 lo (k : Int) = g at *
          have H5 : Hid (ind 5 lo ((k + 1 : Nat) : Int) = g) := by rw [Int.natCast_succ]; exact f5
          have H6 : Hid (ind 6 lo ((k + 1 : Nat) : Int) = p) := by rw [Int.natCast_succ]; exact f6
          clear f6 f5
          go_wp2_with (go_at_call 4; refine (names_o _ h5 h6 _).mono ?_; rintro e w' ⟨rfl, rfl⟩)
          go_round
          case rel => exact ⟨k + 1, by omega, by go_num, vi (by have := H6.out; have := H5.out; omega), vi (by have := H6.out; have := H5.out; omega), vi (by have := H6.out; have := H5.out; omega)⟩
          case measure => simp [intOf]; omega
    · obtain rfl : k = n := by omega
      by_cases c6 : lo ≤ 6 ∧ 6 < lo + (k : Int)
      · have e6 := ind_yes 6 lo k c6.1 c6.2
        by_cases c5 : lo ≤ 5
        · have e5 := ind_yes 5 lo k c5 (by omega)
          rw [e5, e6]
          clear e5 e6 b6 b5
          obtain ⟨c6, c6'⟩ := c6
          go_wp2
          go_ret
          exact ⟨rfl, rfl⟩
        · have e5 := ind_no 5 lo k (by omega)
          rw [e5, e6]
          clear e5 e6 b6 b5
          obtain ⟨c6, c6'⟩ := c6
          go_wp2
          go_ret
          exact ⟨rfl, rfl⟩
      · have e6 := ind_no 6 lo k c6
        by_cases a6 : lo ≤ 6
        · have a6' : lo + (k : Int) ≤ 6 := by omega
          clear c6
          by_cases a5 : lo ≤ 5
          · by_cases a5' : 5 < lo + (k : Int)
            · have e5 := ind_yes 5 lo k a5 a5'
              rw [e5, e6]
              clear e5 e6 b6 b5
              go_wp2
              go_ret
              exact ⟨rfl, rfl⟩
            · have e5 := ind_no 5 lo k (by omega)
              rw [e5, e6]
              clear e5 e6 b6 b5
              go_wp2
              go_ret
              exact ⟨rfl, rfl⟩
          · have e5 := ind_no 5 lo k (by omega)
            rw [e5, e6]
            clear e5 e6 b6 b5
            go_wp2
            go_ret
            exact ⟨rfl, rfl⟩
        · have e5 := ind_no 5 lo k (by omega)
          clear c6
          rw [e5, e6]
          clear e5 e6 b6 b5
          go_wp2
          go_ret
          exact ⟨rfl, rfl⟩


set_option maxRecDepth 100000 in
set_option maxHeartbeats 400000 in
/-- The inputs that the law lets pass. -/
theorem out_walk (lo n : Int) (w : World) (h : n < 0 ∨ 65536 < n ∨ 9223372036854775807 - n < lo) :
    Calls Try.prog 3 #[.int .i64 lo, .int .i64 n] w fun e w' => e = .returned (.bool true) ∧ w = w' := by
  by_cases h1 : n < 0
  · go_enter Try.func3, Try.ntmps3
    go_wp2
    go_ret
    exact ⟨rfl, rfl⟩
  · by_cases h2 : 65536 < n
    · go_enter Try.func3, Try.ntmps3
      go_wp2
      go_ret
      exact ⟨rfl, rfl⟩
    · have h3 : 9223372036854775807 - n < lo := by omega
      go_enter Try.func3, Try.ntmps3
      go_wp2
      go_ret
      exact ⟨rfl, rfl⟩

end Go.Proofs.Qxb6614126a
