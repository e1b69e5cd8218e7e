import Derived.Test.Qxb6608833aRows
import Derived.Test.Qxb6608833aKeys
import Derived.WalkKit
import Derived.WalkLawsBesides
import Derived.Below
import Derived.BigQuiet
import Derived.Deep.QuietTactic
namespace Go.Proofs.Qxb6608833a
open Go.RowKit
open Go.Lib (compareBytes)

theorem dd (w : World) (a b : Nat) : (w.drewN a).drewN b = w.drewN (a + b) := by simp [World.drewN, Nat.add_assoc]
/-- w' is w but for draws. -/
def Dw (w w' : World) : Prop := ∃ q, w' = w.drewN q
theorem Dw.refl (w : World) : Dw w w := ⟨0, rfl⟩
theorem Dw.more {w v : World} (h : Dw w v) (n : Nat) : Dw w (v.drewN n) := by
  obtain ⟨q, rfl⟩ := h
  exact ⟨q + n, dd w q n⟩
theorem Dw.below {w v : World} (h : Dw w v) (B : Nat) : Below B w v := by
  obtain ⟨q, rfl⟩ := h
  exact ⟨rfl, rfl, rfl, Nat.le_refl _, fun _ _ => rfl⟩
theorem vi {k : IntKind} {a b : Int} (h : a = b) : Ending.returned (.int k a) = .returned (.int k b) := by rw [h]

theorem drop_cons (s : ByteArray) (k : Nat) (h : k < s.size) : s.data.toList.drop k = s[k] :: s.data.toList.drop (k + 1) := by
  rw [List.drop_eq_getElem_cons (by simpa using h)]; rfl
theorem drop_nil (s : ByteArray) (k : Nat) (h : s.size ≤ k) : s.data.toList.drop k = [] := List.drop_eq_nil_of_le (by simpa using h)

theorem cb_lt (a b : ByteArray) (k : Nat) (ha : k < a.size) (hb : k < b.size) (h : (a[k].toNat : Int) < (b[k].toNat : Int)) : compareBytes (a.data.toList.drop k) (b.data.toList.drop k) = -1 := by
  rw [drop_cons a k ha, drop_cons b k hb, compareBytes]
  have : a[k] < b[k] := UInt8.lt_iff_toNat_lt.2 (by omega)
  simp [this]
theorem cb_gt (a b : ByteArray) (k : Nat) (ha : k < a.size) (hb : k < b.size) (h : (b[k].toNat : Int) < (a[k].toNat : Int)) : compareBytes (a.data.toList.drop k) (b.data.toList.drop k) = 1 := by
  rw [drop_cons a k ha, drop_cons b k hb, compareBytes]
  have h1 : b[k] < a[k] := UInt8.lt_iff_toNat_lt.2 (by omega)
  have h2 : ¬ a[k] < b[k] := UInt8.lt_asymm h1
  simp [h1, h2]
theorem cb_eq (a b : ByteArray) (k : Nat) (ha : k < a.size) (hb : k < b.size) (h1 : ¬ (a[k].toNat : Int) < (b[k].toNat : Int)) (h2 : ¬ (b[k].toNat : Int) < (a[k].toNat : Int)) :
    compareBytes (a.data.toList.drop k) (b.data.toList.drop k) = compareBytes (a.data.toList.drop (k + 1)) (b.data.toList.drop (k + 1)) := by
  rw [drop_cons a k ha, drop_cons b k hb, compareBytes]
  have e1 : ¬ a[k] < b[k] := fun h => h1 (by have := UInt8.lt_iff_toNat_lt.1 h; omega)
  have e2 : ¬ b[k] < a[k] := fun h => h2 (by have := UInt8.lt_iff_toNat_lt.1 h; omega)
  simp [e1, e2]
theorem cb_end (a b : ByteArray) (k : Nat) (h : a.size ≤ k ∨ b.size ≤ k) (hk : k ≤ a.size) (hk' : k ≤ b.size) :
    compareBytes (a.data.toList.drop k) (b.data.toList.drop k) = if a.size < b.size then -1 else if b.size < a.size then 1 else 0 := by
  by_cases h1 : a.size < b.size
  · rw [if_pos h1, drop_nil a k (by omega), drop_cons b k (by omega)]; rfl
  · rw [if_neg h1]
    by_cases h2 : b.size < a.size
    · rw [if_pos h2, drop_nil b k (by omega), drop_cons a k (by omega)]; rfl
    · rw [if_neg h2, drop_nil a k (by omega), drop_nil b k (by omega)]; rfl

set_option maxRecDepth 100000 in
set_option maxHeartbeats 2000000 in
theorem cmpStr_any (a b : ByteArray) (w : World) (ha : a.size ≤ 9223372036854775807) (hb : b.size ≤ 9223372036854775807) :
    Calls Try.prog 54 #[.string a, .string b] w fun e w' => e = .returned (.int .i64 (compareBytes a.data.toList b.data.toList)) ∧ Dw w w' := by
  by_cases hba : b.size < a.size
  all_goals
    go_enter Try.func54, Try.ntmps54
    go_wp2
    go_loopw [6] (fun i wr => ∃ k : Nat, k ≤ a.size ∧ k ≤ b.size ∧ i = .int .i64 k ∧ Dw w wr ∧ compareBytes a.data.toList b.data.toList = compareBytes (a.data.toList.drop k) (b.data.toList.drop k)) (fun i _ => a.size + b.size - (intOf i).toNat)
    case atStart => exact ⟨0, Nat.zero_le _, Nat.zero_le _, rfl, Dw.refl _, rfl⟩
    case round =>
      obtain ⟨k, hka, hkb, rfl, hdw, hcmp⟩ := hrel
      have HC : Hid (compareBytes a.data.toList b.data.toList = compareBytes (a.data.toList.drop k) (b.data.toList.drop k)) := hcmp
      clear hcmp
      by_cases hlt : k < a.size ∧ k < b.size
      · obtain ⟨hl1, hl2⟩ := hlt
        have i1 : (0 : Int) ≤ (k : Int) := by omega
        have i2 : (k : Int) < (a.size : Int) := by omega
        have i3 : (k : Int) < (b.size : Int) := by omega
        by_cases h1 : (a[k].toNat : Int) < (b[k].toNat : Int)
        · go_wp2
          go_quiet (fail)
          go_wp2
          go_ret
          exact ⟨vi (by rw [HC.out, cb_lt a b k hl1 hl2 (by omega)]), hdw.more _⟩
        · by_cases h2 : (b[k].toNat : Int) < (a[k].toNat : Int)
          · go_wp2
            go_quiet (fail)
            go_wp2
            go_quiet (fail)
            go_wp2
            go_ret
            exact ⟨vi (by rw [HC.out, cb_gt a b k hl1 hl2 (by omega)]), (hdw.more _).more _⟩
          · go_wp2
            go_quiet (fail)
            go_wp2
            go_quiet (fail)
            go_wp2
            go_roundw
            case rel => exact ⟨k + 1, by omega, by omega, by go_num, by first | exact hdw.more _ | exact (hdw.more _).more _, by rw [HC.out, cb_eq a b k hl1 hl2 (by omega) (by omega)]⟩
            case measure => simp [intOf]; omega
      · have he := cb_end a b k (by omega) hka hkb
        have HE : Hid (compareBytes (a.data.toList.drop k) (b.data.toList.drop k) = if a.size < b.size then -1 else if b.size < a.size then 1 else 0) := he
        clear he
        by_cases h1 : a.size < b.size
        · first
          | (exfalso; omega)
          | (go_wp2; go_ret; exact ⟨vi (by rw [HC.out, HE.out, if_pos h1]), hdw⟩)
        · by_cases h2 : b.size < a.size
          · first
            | (exfalso; omega)
            | (go_wp2; go_ret; exact ⟨vi (by rw [HC.out, HE.out, if_neg h1, if_pos h2]), hdw⟩)
          · first
            | (exfalso; omega)
            | (go_wp2; go_ret; exact ⟨vi (by rw [HC.out, HE.out, if_neg h1, if_neg h2]), hdw⟩)

set_option maxHeartbeats 400000 in
/-- cmpKey: two boxes, some draws. -/
theorem cmpKey_any (a b : Key) (w : World) (h1 : a.1.size ≤ 9223372036854775807) (h2 : a.2.size ≤ 9223372036854775807) (h3 : b.1.size ≤ 9223372036854775807) (h4 : b.2.size ≤ 9223372036854775807) :
    Calls Try.prog 39 #[.agg #[.string a.1, .string a.2], .agg #[.string b.1, .string b.2]] w fun e w' => e = .returned (.int .i64 (cmpK a b)) ∧ Below w.heap.size w w' := by
  have hB : Below w.heap.size w ((w.alloc (.cells #[.string a.1, .string a.2] 47)).alloc (.cells #[.string b.1, .string b.2] 47)) :=
    ((Below.refl _ w).alloc (Nat.le_refl _) _).alloc (by simp) _
  by_cases h0 : compareBytes a.1.data.toList b.1.data.toList = 0
  · have e : cmpK a b = compareBytes a.2.data.toList b.2.data.toList := by unfold cmpK; rw [if_pos h0]
    rw [e]
    have HZ : Hid (compareBytes a.1.data.toList b.1.data.toList = 0) := h0
    clear h0 e
    go_enter Try.func39, Try.ntmps39
    go_wp2_with fail
    refine (cmpStr_any a.1 b.1 _ h1 h3).mono ?_
    rintro e w1 ⟨rfl, d1⟩
    obtain ⟨q, rfl⟩ := d1
    rw [HZ.out]
    go_wp2_with fail
    refine (cmpStr_any a.2 b.2 _ h2 h4).mono ?_
    rintro e w2 ⟨rfl, d2⟩
    go_wp2
    go_ret
    exact ⟨rfl, (hB.trans (Dw.below ⟨q, rfl⟩ _)).trans (d2.below _)⟩
  · have e : cmpK a b = compareBytes a.1.data.toList b.1.data.toList := by unfold cmpK; rw [if_neg h0]
    rw [e]
    clear e
    go_enter Try.func39, Try.ntmps39
    go_wp2_with fail
    refine (cmpStr_any a.1 b.1 _ h1 h3).mono ?_
    rintro e w1 ⟨rfl, d1⟩
    generalize hzz : compareBytes a.1.data.toList b.1.data.toList = z at *
    have HZ : Hid (compareBytes a.1.data.toList b.1.data.toList = z) := hzz
    clear hzz
    have hz : (z != 0) = true := by simp [h0]
    go_wp2
    go_ret
    exact ⟨vi (by rw [HZ.out]), hB.trans (d1.below _)⟩

end Go.Proofs.Qxb6608833a
