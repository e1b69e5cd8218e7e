import Derived.Test.Qxb6608833aRows
import Derived.Test.Qxb6608833aPlain
import Derived.WalkKit
import Derived.Below
namespace Go.Proofs.Qxb6608833a
open Go.RowKit

set_option maxHeartbeats 400000 in
theorem isColor_any (c : Int) (w : World) : Calls Try.prog 15 #[.int .u8 c] w fun e w' => e = .returned (.bool (isCol c)) ∧ w = w' := by
  by_cases h1 : 1 ≤ c
  · by_cases h2 : c ≤ 6
    · have hb : isCol c = true := (isCol_iff c).2 ⟨h1, h2⟩
      rw [hb]
      go_enter Try.func15, Try.ntmps15
      go_wp2
      go_ret
      exact ⟨rfl, rfl⟩
    · have hb : isCol c = false := (isCol_no c).2 (by omega)
      rw [hb]
      go_enter Try.func15, Try.ntmps15
      go_wp2
      go_ret
      exact ⟨rfl, rfl⟩
  · have hb : isCol c = false := (isCol_no c).2 (by omega)
    rw [hb]
    go_enter Try.func15, Try.ntmps15
    go_wp2
    go_ret
    exact ⟨rfl, rfl⟩

set_option maxHeartbeats 400000 in
theorem known_any (c : Int) (w : World) : Calls Try.prog 52 #[.int .u8 c] w fun e w' => e = .returned (.bool (isCol c)) ∧ w = w' := by
  by_cases h1 : 1 ≤ c
  · by_cases h2 : c ≤ 6
    · have hb : isCol c = true := (isCol_iff c).2 ⟨h1, h2⟩
      rw [hb]
      go_enter Try.func52, Try.ntmps52
      go_wp2
      go_ret
      exact ⟨rfl, rfl⟩
    · have hb : isCol c = false := (isCol_no c).2 (by omega)
      rw [hb]
      go_enter Try.func52, Try.ntmps52
      go_wp2
      go_ret
      exact ⟨rfl, rfl⟩
  · have hb : isCol c = false := (isCol_no c).2 (by omega)
    rw [hb]
    go_enter Try.func52, Try.ntmps52
    go_wp2
    go_ret
    exact ⟨rfl, rfl⟩


/-- A slice's elements: there are none; or they lie in a block of the heap. -/
def Row (w : World) (a : Option Addr) (zs : List Int) : Prop :=
  zs = [] ∨ ∃ b off, a = some ⟨b, off, none⟩ ∧ b < w.heap.size ∧ ∀ j, j < zs.length → w.cell? ⟨b, off + j, none⟩ = some (.int .u8 (zs[j]?.getD 0))

theorem Row.below {w w' : World} (h : Below w.heap.size w w') {a : Option Addr} {zs : List Int} : Row w a zs → Row w' a zs
  | .inl e => .inl e
  | .inr ⟨b, off, e, hb, hc⟩ => .inr ⟨b, off, e, Nat.lt_of_lt_of_le hb h.size, fun j hj => (h.cell (p := ⟨b, off + j, none⟩) hb).trans (hc j hj)⟩

theorem hasCol_take_succ (zs : List Int) (k : Nat) (hk : k < zs.length) : hasCol (zs.take (k + 1)) = (hasCol (zs.take k) || isCol (zs[k]?.getD 0)) := by
  rw [List.take_succ_eq_append_getElem hk, List.getElem?_eq_getElem hk]
  simp only [hasCol, List.any_append, List.any_cons, List.any_nil, Bool.or_false, Option.getD_some]

theorem hasCol_of_take (zs : List Int) (k : Nat) (h : hasCol (zs.take k) = true) : hasCol zs = true := by
  rw [hasCol_iff] at h ⊢
  obtain ⟨x, hx, h2⟩ := h
  exact ⟨x, List.mem_of_mem_take hx, h2⟩

set_option maxHeartbeats 400000 in
theorem hasColor_any (a : Option Addr) (cap : Nat) (zs : List Int) (w : World) (hl : zs.length ≤ 1048576) (hR : Row w a zs) :
    Calls Try.prog 12 #[.slice a zs.length cap] w fun e w' => e = .returned (.bool (hasCol zs)) ∧ w = w' := by
  rcases hR with rfl | ⟨b, off, rfl, hb, hc⟩
  · go_enter Try.func12, Try.ntmps12
    go_wp2
    refine wp_loop_rounds 1 ?_
    rw [rounds_succ]
    go_wp2
    go_ret
    exact ⟨rfl, rfl⟩
  · go_enter Try.func12, Try.ntmps12
    go_wp2
    go_loop [3] (fun i => ∃ k : Nat, k ≤ zs.length ∧ i = .int .i64 k ∧ hasCol (zs.take k) = false) (fun i => zs.length - (intOf i).toNat)
    case atStart => exact ⟨0, Nat.zero_le _, rfl, rfl⟩
    case round =>
      obtain ⟨k, hk, rfl, hno⟩ := hrel
      have HN : Hid (hasCol (zs.take k) = false) := hno
      clear hno
      by_cases hlt : k < zs.length
      · have hcx := hc k hlt
        have hst := hasCol_take_succ zs k hlt
        generalize zs[k]?.getD 0 = x at hcx hst
        have HS : Hid (hasCol (zs.take (k + 1)) = (hasCol (zs.take k) || isCol x)) := hst
        clear hst hc
        cases hcol : isCol x with
        | true =>
          go_wp2_with (go_at_call 15; refine (isColor_any _ _).mono ?_; rintro e w' ⟨rfl, rfl⟩)
          go_ret
          exact ⟨by rw [hasCol_of_take zs (k + 1) (by rw [HS.out, hcol]; simp)]; rfl, rfl⟩
        | false =>
          go_wp2_with (go_at_call 15; refine (isColor_any _ _).mono ?_; rintro e w' ⟨rfl, rfl⟩)
          go_round
          case rel => exact ⟨k + 1, by omega, by go_num, by rw [HS.out, HN.out, hcol]; rfl⟩
          case measure => simp [intOf]; omega
      · go_wp2
        go_ret
        have hh := HN.out
        rw [List.take_of_length_le (by omega)] at hh
        exact ⟨by rw [hh]; rfl, rfl⟩

set_option maxHeartbeats 400000 in
theorem zzBytesT_any (a : Option Addr) (len cap : Nat) (i c : Int) (w : World) (hm : len ≤ 9223372036854775807) :
    Calls Try.prog 14 #[.slice a len cap, .int .i64 i, .int .u8 c] w fun e w' => e = .returned (.bool (decide (len ≤ 1048576))) ∧ w = w' := by
  by_cases h : len ≤ 1048576
  · rw [decide_eq_true h]
    go_enter Try.func14, Try.ntmps14
    go_wp2
    go_ret
    exact ⟨rfl, rfl⟩
  · rw [decide_eq_false h]
    go_enter Try.func14, Try.ntmps14
    go_wp2
    go_ret
    exact ⟨rfl, rfl⟩

set_option maxHeartbeats 400000 in
theorem zzBytesS_any (a : Option Addr) (len cap : Nat) (i : Int) (w : World) (hm : len ≤ 9223372036854775807) :
    Calls Try.prog 9 #[.slice a len cap, .int .i64 i] w fun e w' => e = .returned (.bool (decide (len ≤ 1048576))) ∧ w = w' := by
  by_cases h : len ≤ 1048576
  · rw [decide_eq_true h]
    go_enter Try.func9, Try.ntmps9
    go_wp2
    go_ret
    exact ⟨rfl, rfl⟩
  · rw [decide_eq_false h]
    go_enter Try.func9, Try.ntmps9
    go_wp2
    go_ret
    exact ⟨rfl, rfl⟩

end Go.Proofs.Qxb6608833a
