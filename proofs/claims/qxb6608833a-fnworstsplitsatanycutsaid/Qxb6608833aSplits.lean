import Derived.Test.Qxb6608833aMade
import Derived.Test.Qxb6608833aWorst2
namespace Go.Proofs.Qxb6608833a
open Go.RowKit

theorem mem_take_succ (zs : List Int) (k : Nat) (r : Int) (hk : k < zs.length) : decide (r ∈ zs.take (k + 1)) = (decide (r ∈ zs.take k) || decide (r = zs[k]?.getD 0)) := by
  rw [List.take_succ_eq_append_getElem hk, List.getElem?_eq_getElem hk]
  simp only [List.mem_append, List.mem_singleton, Option.getD_some, Bool.decide_or]

set_option maxRecDepth 100000 in
set_option maxHeartbeats 400000 in
theorem isWorstOf_any (a : Option Addr) (cap : Nat) (zs : List Int) (w : World) (hl : zs.length ≤ 1048576) (hR : Row w a zs) :
    Calls Try.prog 13 #[.int .u8 (worst zs), .slice a zs.length cap] w fun e w' => e = .returned (.bool true) ∧ w = w' := by
  rcases worst_said zs with ⟨hno, h5⟩ | ⟨hyes, r1, r6, hin, hmin⟩
  · rw [h5]
    go_enter Try.func13, Try.ntmps13
    go_wp2_with (go_at_call 12; refine (hasColor_any _ _ zs _ hl hR).mono ?_; rintro e w' ⟨rfl, rfl⟩)
    go_ret
    exact ⟨rfl, rfl⟩
  · have hrc : isCol (worst zs) = true := (isCol_iff _).2 ⟨r1, r6⟩
    generalize worst zs = r at *
    have HH : Hid (hasCol zs = true) := hyes
    go_enter Try.func13, Try.ntmps13
    go_wp2_with (first | (go_at_call 12; refine (hasColor_any _ _ zs _ hl hR).mono ?_; rintro e w' ⟨rfl, rfl⟩) | (go_at_call 15; refine (isColor_any _ _).mono ?_; rintro e w' ⟨rfl, rfl⟩))
    go_loop [5, 6] (fun f i => ∃ k : Nat, k ≤ zs.length ∧ i = .int .i64 k ∧ f = .bool (decide (r ∈ zs.take k))) (fun _ i => zs.length - (intOf i).toNat)
    case atStart => exact ⟨0, Nat.zero_le _, rfl, by simp⟩
    case round =>
      obtain ⟨k, hk, rfl, rfl⟩ := hrel
      by_cases hlt : k < zs.length
      · rcases hR with rfl | ⟨b, off, rfl, hb, hc⟩
        · simp at hlt
        have hcx := hc k hlt
        have hms := mem_take_succ zs k r hlt
        have hx : 1 ≤ zs[k]?.getD 0 → zs[k]?.getD 0 ≤ 6 → r ≤ zs[k]?.getD 0 := hmin _ (by rw [List.getElem?_eq_getElem hlt]; exact List.getElem_mem _)
        generalize zs[k]?.getD 0 = x at hcx hms hx
        have HM : Hid (decide (r ∈ zs.take (k + 1)) = (decide (r ∈ zs.take k) || decide (r = x))) := hms
        clear hms hc hmin hin
        generalize decide (r ∈ zs.take k) = f0 at *
        by_cases hxr : x = r
        · subst hxr
          go_wp2_with (go_at_call 15; refine (isColor_any _ _).mono ?_; rintro e w' ⟨rfl, rfl⟩)
          go_round
          case rel => exact ⟨k + 1, by omega, by go_num, by rw [HM.out]; simp⟩
          case measure => simp [intOf]; omega
        · have hxb : (x == r) = false := by simp [hxr]
          have HM2 : Hid (decide (r ∈ zs.take (k + 1)) = f0) := by show _ = _; rw [HM.out]; simp [Ne.symm hxr]
          clear HM
          cases hxc : isCol x with
          | false =>
            go_wp2_with (go_at_call 15; refine (isColor_any _ _).mono ?_; rintro e w' ⟨rfl, rfl⟩)
            go_round
            case rel => exact ⟨k + 1, by omega, by go_num, by rw [HM2.out]⟩
            case measure => simp [intOf]; omega
          | true =>
            have hx' := (isCol_iff x).1 hxc
            have hle := hx hx'.1 hx'.2
            go_wp2_with (go_at_call 15; refine (isColor_any _ _).mono ?_; rintro e w' ⟨rfl, rfl⟩)
            go_round
            case rel => exact ⟨k + 1, by omega, by go_num, by rw [HM2.out]⟩
            case measure => simp [intOf]; omega
      · have hf : decide (r ∈ zs.take k) = true := by rw [List.take_of_length_le (by omega)]; exact decide_eq_true hin
        rw [hf]
        go_wp2
        go_ret
        exact ⟨rfl, rfl⟩

/-- THE LAW: two pieces. -/
theorem worst_append (l r : List Int) :
    worst (l ++ r) = if hasCol l = true ∧ (hasCol r = false ∨ worst l < worst r) then worst l else worst r := by
  have hm : ∀ x, x ∈ l ++ r ↔ x ∈ l ∨ x ∈ r := fun x => List.mem_append
  generalize l ++ r = t at *
  rcases worst_said l with ⟨a, ha⟩ | ⟨a, l1, l2, l3, l4⟩
  · rw [if_neg (by rw [a]; simp)]
    rcases worst_said t with ⟨b, hb⟩ | ⟨b, t1, t2, t3, t4⟩
    · rcases worst_said r with ⟨d, hd⟩ | ⟨d, r1, r2, r3, r4⟩
      · omega
      · exact absurd ⟨r1, r2⟩ ((hasCol_no t).1 b _ ((hm _).2 (.inr r3)))
    · rcases (hm _).1 t3 with h | h
      · exact absurd ⟨t1, t2⟩ ((hasCol_no l).1 a _ h)
      · rcases worst_said r with ⟨d, hd⟩ | ⟨d, r1, r2, r3, r4⟩
        · exact absurd ⟨t1, t2⟩ ((hasCol_no r).1 d _ h)
        · have k1 := r4 _ h t1 t2
          have k2 := t4 _ ((hm _).2 (.inr r3)) r1 r2
          omega
  · rcases worst_said t with ⟨b, hb⟩ | ⟨b, t1, t2, t3, t4⟩
    · exact absurd ⟨l1, l2⟩ ((hasCol_no t).1 b _ ((hm _).2 (.inl l3)))
    · have k1 := t4 _ ((hm _).2 (.inl l3)) l1 l2
      rcases worst_said r with ⟨d, hd⟩ | ⟨d, r1, r2, r3, r4⟩
      · rw [if_pos ⟨a, .inl d⟩]
        rcases (hm _).1 t3 with h | h
        · have := l4 _ h t1 t2; omega
        · exact absurd ⟨t1, t2⟩ ((hasCol_no r).1 d _ h)
      · have k2 := t4 _ ((hm _).2 (.inr r3)) r1 r2
        by_cases hlt : worst l < worst r
        · rw [if_pos ⟨a, .inr hlt⟩]
          rcases (hm _).1 t3 with h | h
          · have := l4 _ h t1 t2; omega
          · have := r4 _ h t1 t2; omega
        · rw [if_neg (by rw [d]; simp [hlt])]
          rcases (hm _).1 t3 with h | h
          · have := l4 _ h t1 t2; omega
          · have := r4 _ h t1 t2; omega

/-! The contracts at a length that is not spelt 'zs.length'. -/
theorem toColors_len (a : Option Addr) (cap len : Nat) (zs : List Int) (hz : zs.length = len) (w : World) (hl : len ≤ 1048576) (hR : Row w a zs) :
    Calls Try.prog 11 #[.slice a len cap] w fun e w' => e = .returned (.slice (some ⟨w.heap.size, 0, none⟩) len len) ∧ Row w' (some ⟨w.heap.size, 0, none⟩) zs ∧ Below w.heap.size w w' := by
  subst hz; exact toColors_any a cap zs w hl hR
theorem worstOf_len (cap len : Nat) (a : Option Addr) (zs : List Int) (hz : zs.length = len) (w : World) (hreach : len ≤ 1048577) (hR : Row w a zs) :
    Calls Try.prog 10 #[.slice a len cap] w fun e W' => e = .returned (.int .u8 (worst zs)) ∧ Below w.heap.size w W' := by
  subst hz; exact worstOf_any cap a zs w hreach hR
theorem hasColor_len (a : Option Addr) (cap len : Nat) (zs : List Int) (hz : zs.length = len) (w : World) (hl : len ≤ 1048576) (hR : Row w a zs) :
    Calls Try.prog 12 #[.slice a len cap] w fun e w' => e = .returned (.bool (hasCol zs)) ∧ w = w' := by
  subst hz; exact hasColor_any a cap zs w hl hR
theorem isWorstOf_len (a : Option Addr) (cap len : Nat) (zs : List Int) (hz : zs.length = len) (r : Int) (hr : worst zs = r) (w : World) (hl : len ≤ 1048576) (hR : Row w a zs) :
    Calls Try.prog 13 #[.int .u8 r, .slice a len cap] w fun e w' => e = .returned (.bool true) ∧ w = w' := by
  subst hz; subst hr; exact isWorstOf_any a cap zs w hl hR

theorem Row.left {w : World} {a : Option Addr} {zs : List Int} (k : Nat) : Row w a zs → Row w a (zs.take k)
  | .inl e => .inl (by rw [e]; simp)
  | .inr ⟨b, off, e, hb, hc⟩ => .inr ⟨b, off, e, hb, fun j hj => by
      have h1 : j < k := by simp at hj; omega
      rw [hc j (by simp at hj; omega), List.getElem?_take_of_lt h1]⟩
theorem Row.right {w : World} {a : Option Addr} {zs : List Int} (k : Nat) : Row w a zs → Row w (a.map (·.add k)) (zs.drop k)
  | .inl e => .inl (by rw [e]; simp)
  | .inr ⟨b, off, e, hb, hc⟩ => .inr ⟨b, off + k, by rw [e]; simp [Addr.add], hb, fun j hj => by
      rw [Nat.add_assoc, hc (k + j) (by simp at hj; omega), List.getElem?_drop]⟩

set_option maxRecDepth 100000 in
set_option maxHeartbeats 1000000 in
theorem splits_main (a : Option Addr) (cap : Nat) (zs : List Int) (k : Nat) (w : World) (hl : zs.length ≤ 1048576) (hlc : zs.length ≤ cap) (hR : Row w a zs) (hk : k ≤ zs.length) :
    Calls Try.prog 3 #[.slice a zs.length cap, .int .i64 k] w fun e w' => e = .returned (.bool true) ∧ Below w.heap.size w w' := by
  have d1 : decide ((1048576 : Int) < (zs.length : Int)) = false := decide_eq_false (by omega)
  have d2 : decide ((k : Int) < 0) = false := decide_eq_false (by omega)
  have hd : decide (zs.length ≤ 1048576) = true := decide_eq_true hl
  have law := worst_append (zs.take k) (zs.drop k)
  rw [List.take_append_drop] at law
  have hRl := hR.left k
  have hRr : Row w (if cap = k then a else a.map (·.add k)) (zs.drop k) := by
    by_cases h : cap = k
    · exact .inl (List.drop_eq_nil_of_le (by omega))
    · rw [if_neg h]; exact hR.right k
  have hll : (zs.take k).length = k := by simp; omega
  have hlr : (zs.drop k).length = zs.length - k := by simp
  generalize zs.take k = L at *
  generalize zs.drop k = R at *
  have HL : Hid (worst zs = if hasCol L = true ∧ (hasCol R = false ∨ worst L < worst R) then worst L else worst R) := law
  have Hll : Hid (L.length = k) := hll
  have Hlr : Hid (R.length = zs.length - k) := hlr
  clear law hll hlr
  by_cases hck : cap = k
  · rw [if_pos hck] at hRr
    obtain rfl : k = zs.length := by omega
    subst hck
    have Hlr0 : Hid (R.length = 0) := by have := Hlr.out; show _ = _; omega
    clear Hlr
    have Hlr := Hlr0
    clear Hlr0
    go_enter Try.func3, Try.ntmps3
    go_wp2_with (first | (go_at_call 9; refine (zzBytesS_any _ _ _ _ _ (by omega)).mono ?_; rintro e w' ⟨rfl, rfl⟩))
    refine (toColors_any a (zs.length) zs w hl hR).mono ?_
    rintro e w1 ⟨rfl, q1, b1⟩
    go_wp2_with fail
    refine (worstOf_any zs.length _ zs w1 (by omega) q1).mono ?_
    rintro e w2 ⟨rfl, b2⟩
    have B2 : Below w.heap.size w w2 := b1.trans (b2.mono b1.size)
    clear q1 b1 b2
    go_wp2_with fail
    refine (toColors_len a (zs.length) (zs.length) L Hll.out w2 (by omega) (hRl.below B2)).mono ?_
    rintro e w3 ⟨rfl, q1, b1⟩
    go_wp2_with fail
    refine (worstOf_len (zs.length) (zs.length) _ L Hll.out w3 (by omega) q1).mono ?_
    rintro e w4 ⟨rfl, b2⟩
    have B4 : Below w.heap.size w w4 := (B2.trans (b1.mono B2.size)).trans (b2.mono (Nat.le_trans B2.size b1.size))
    clear q1 b1 b2 B2
    go_wp2_with fail
    refine (toColors_len a (0) (0) R Hlr.out w4 (by omega) (hRr.below B4)).mono ?_
    rintro e w5 ⟨rfl, q1, b1⟩
    go_wp2_with fail
    refine (worstOf_len (0) (0) _ R Hlr.out w5 (by omega) q1).mono ?_
    rintro e w6 ⟨rfl, b2⟩
    have B6 : Below w.heap.size w w6 := (B4.trans (b1.mono B4.size)).trans (b2.mono (Nat.le_trans B4.size b1.size))
    clear q1 b1 b2 B4
    have r0 := hR.below B6
    have r1 := hRl.below B6
    have r2 := hRr.below B6
    clear hR hRl hRr
    generalize hw0 : worst zs = x0 at *
    generalize hw1 : worst L = x1 at *
    generalize hw2 : worst R = x2 at *
    have W0 : Hid (worst zs = x0) := hw0
    have W1 : Hid (worst L = x1) := hw1
    have W2 : Hid (worst R = x2) := hw2
    clear hw0 hw1 hw2
    go_wp2_with fail
    cases hcl : hasCol L with
    | false =>
      obtain rfl : x0 = x2 := by rw [HL.out, if_neg (by rw [hcl]; simp)]
      refine (hasColor_len a (zs.length) (zs.length) L Hll.out _ (by omega) r1).mono ?_; rintro e w' ⟨rfl, rfl⟩
      go_wp2_with fail
      refine (isWorstOf_len a (zs.length) (zs.length) zs rfl _ W0.out _ (by omega) r0).mono ?_; rintro e w' ⟨rfl, rfl⟩
      go_wp2_with fail
      refine (isWorstOf_len a (zs.length) (zs.length) L Hll.out _ W1.out _ (by omega) r1).mono ?_; rintro e w' ⟨rfl, rfl⟩
      go_wp2_with fail
      refine (isWorstOf_len a (0) (0) R Hlr.out _ W2.out _ (by omega) r2).mono ?_; rintro e w' ⟨rfl, rfl⟩
      go_wp2
      go_ret
      exact ⟨rfl, B6⟩
    | true =>
     cases hcr : hasCol R with
     | false =>
      obtain rfl : x0 = x1 := by rw [HL.out, if_pos ⟨hcl, .inl hcr⟩]
      refine (hasColor_len a (zs.length) (zs.length) L Hll.out _ (by omega) r1).mono ?_; rintro e w' ⟨rfl, rfl⟩
      go_wp2_with fail
      refine (hasColor_len a (0) (0) R Hlr.out _ (by omega) r2).mono ?_; rintro e w' ⟨rfl, rfl⟩
      go_wp2_with fail
      refine (isWorstOf_len a (zs.length) (zs.length) zs rfl _ W0.out _ (by omega) r0).mono ?_; rintro e w' ⟨rfl, rfl⟩
      go_wp2_with fail
      refine (isWorstOf_len a (zs.length) (zs.length) L Hll.out _ W1.out _ (by omega) r1).mono ?_; rintro e w' ⟨rfl, rfl⟩
      go_wp2_with fail
      refine (isWorstOf_len a (0) (0) R Hlr.out _ W2.out _ (by omega) r2).mono ?_; rintro e w' ⟨rfl, rfl⟩
      go_wp2
      go_ret
      exact ⟨rfl, B6⟩
     | true =>
     by_cases hlt : x1 < x2
     · obtain rfl : x0 = x1 := by rw [HL.out, if_pos ⟨hcl, .inr hlt⟩]
       refine (hasColor_len a (zs.length) (zs.length) L Hll.out _ (by omega) r1).mono ?_; rintro e w' ⟨rfl, rfl⟩
       go_wp2_with fail
       refine (hasColor_len a (0) (0) R Hlr.out _ (by omega) r2).mono ?_; rintro e w' ⟨rfl, rfl⟩
       go_wp2_with fail
       refine (isWorstOf_len a (zs.length) (zs.length) zs rfl _ W0.out _ (by omega) r0).mono ?_; rintro e w' ⟨rfl, rfl⟩
       go_wp2_with fail
       refine (isWorstOf_len a (zs.length) (zs.length) L Hll.out _ W1.out _ (by omega) r1).mono ?_; rintro e w' ⟨rfl, rfl⟩
       go_wp2_with fail
       refine (isWorstOf_len a (0) (0) R Hlr.out _ W2.out _ (by omega) r2).mono ?_; rintro e w' ⟨rfl, rfl⟩
       go_wp2
       go_ret
       exact ⟨rfl, B6⟩
     · obtain rfl : x0 = x2 := by rw [HL.out, if_neg (by rw [hcr]; simp [hlt])]
       refine (hasColor_len a (zs.length) (zs.length) L Hll.out _ (by omega) r1).mono ?_; rintro e w' ⟨rfl, rfl⟩
       go_wp2_with fail
       refine (hasColor_len a (0) (0) R Hlr.out _ (by omega) r2).mono ?_; rintro e w' ⟨rfl, rfl⟩
       go_wp2_with fail
       refine (isWorstOf_len a (zs.length) (zs.length) zs rfl _ W0.out _ (by omega) r0).mono ?_; rintro e w' ⟨rfl, rfl⟩
       go_wp2_with fail
       refine (isWorstOf_len a (zs.length) (zs.length) L Hll.out _ W1.out _ (by omega) r1).mono ?_; rintro e w' ⟨rfl, rfl⟩
       go_wp2_with fail
       refine (isWorstOf_len a (0) (0) R Hlr.out _ W2.out _ (by omega) r2).mono ?_; rintro e w' ⟨rfl, rfl⟩
       go_wp2
       go_ret
       exact ⟨rfl, B6⟩
  · rw [if_neg hck] at hRr
    go_enter Try.func3, Try.ntmps3
    go_wp2_with (first | (go_at_call 9; refine (zzBytesS_any _ _ _ _ _ (by omega)).mono ?_; rintro e w' ⟨rfl, rfl⟩))
    generalize Option.map (fun x => x.add k) a = a2 at *
    refine (toColors_any a (cap) zs w hl hR).mono ?_
    rintro e w1 ⟨rfl, q1, b1⟩
    go_wp2_with fail
    refine (worstOf_any zs.length _ zs w1 (by omega) q1).mono ?_
    rintro e w2 ⟨rfl, b2⟩
    have B2 : Below w.heap.size w w2 := b1.trans (b2.mono b1.size)
    clear q1 b1 b2
    go_wp2_with fail
    refine (toColors_len a (cap) (k) L Hll.out w2 (by omega) (hRl.below B2)).mono ?_
    rintro e w3 ⟨rfl, q1, b1⟩
    go_wp2_with fail
    refine (worstOf_len (k) (k) _ L Hll.out w3 (by omega) q1).mono ?_
    rintro e w4 ⟨rfl, b2⟩
    have B4 : Below w.heap.size w w4 := (B2.trans (b1.mono B2.size)).trans (b2.mono (Nat.le_trans B2.size b1.size))
    clear q1 b1 b2 B2
    go_wp2_with fail
    refine (toColors_len a2 (cap - k) (zs.length - k) R Hlr.out w4 (by omega) (hRr.below B4)).mono ?_
    rintro e w5 ⟨rfl, q1, b1⟩
    go_wp2_with fail
    refine (worstOf_len (zs.length - k) (zs.length - k) _ R Hlr.out w5 (by omega) q1).mono ?_
    rintro e w6 ⟨rfl, b2⟩
    have B6 : Below w.heap.size w w6 := (B4.trans (b1.mono B4.size)).trans (b2.mono (Nat.le_trans B4.size b1.size))
    clear q1 b1 b2 B4
    have r0 := hR.below B6
    have r1 := hRl.below B6
    have r2 := hRr.below B6
    clear hR hRl hRr
    generalize hw0 : worst zs = x0 at *
    generalize hw1 : worst L = x1 at *
    generalize hw2 : worst R = x2 at *
    have W0 : Hid (worst zs = x0) := hw0
    have W1 : Hid (worst L = x1) := hw1
    have W2 : Hid (worst R = x2) := hw2
    clear hw0 hw1 hw2
    go_wp2_with fail
    cases hcl : hasCol L with
    | false =>
      obtain rfl : x0 = x2 := by rw [HL.out, if_neg (by rw [hcl]; simp)]
      refine (hasColor_len a (cap) (k) L Hll.out _ (by omega) r1).mono ?_; rintro e w' ⟨rfl, rfl⟩
      go_wp2_with fail
      refine (isWorstOf_len a (cap) (zs.length) zs rfl _ W0.out _ (by omega) r0).mono ?_; rintro e w' ⟨rfl, rfl⟩
      go_wp2_with fail
      refine (isWorstOf_len a (cap) (k) L Hll.out _ W1.out _ (by omega) r1).mono ?_; rintro e w' ⟨rfl, rfl⟩
      go_wp2_with fail
      refine (isWorstOf_len a2 (cap - k) (zs.length - k) R Hlr.out _ W2.out _ (by omega) r2).mono ?_; rintro e w' ⟨rfl, rfl⟩
      go_wp2
      go_ret
      exact ⟨rfl, B6⟩
    | true =>
     cases hcr : hasCol R with
     | false =>
      obtain rfl : x0 = x1 := by rw [HL.out, if_pos ⟨hcl, .inl hcr⟩]
      refine (hasColor_len a (cap) (k) L Hll.out _ (by omega) r1).mono ?_; rintro e w' ⟨rfl, rfl⟩
      go_wp2_with fail
      refine (hasColor_len a2 (cap - k) (zs.length - k) R Hlr.out _ (by omega) r2).mono ?_; rintro e w' ⟨rfl, rfl⟩
      go_wp2_with fail
      refine (isWorstOf_len a (cap) (zs.length) zs rfl _ W0.out _ (by omega) r0).mono ?_; rintro e w' ⟨rfl, rfl⟩
      go_wp2_with fail
      refine (isWorstOf_len a (cap) (k) L Hll.out _ W1.out _ (by omega) r1).mono ?_; rintro e w' ⟨rfl, rfl⟩
      go_wp2_with fail
      refine (isWorstOf_len a2 (cap - k) (zs.length - k) R Hlr.out _ W2.out _ (by omega) r2).mono ?_; rintro e w' ⟨rfl, rfl⟩
      go_wp2
      go_ret
      exact ⟨rfl, B6⟩
     | true =>
     by_cases hlt : x1 < x2
     · obtain rfl : x0 = x1 := by rw [HL.out, if_pos ⟨hcl, .inr hlt⟩]
       refine (hasColor_len a (cap) (k) L Hll.out _ (by omega) r1).mono ?_; rintro e w' ⟨rfl, rfl⟩
       go_wp2_with fail
       refine (hasColor_len a2 (cap - k) (zs.length - k) R Hlr.out _ (by omega) r2).mono ?_; rintro e w' ⟨rfl, rfl⟩
       go_wp2_with fail
       refine (isWorstOf_len a (cap) (zs.length) zs rfl _ W0.out _ (by omega) r0).mono ?_; rintro e w' ⟨rfl, rfl⟩
       go_wp2_with fail
       refine (isWorstOf_len a (cap) (k) L Hll.out _ W1.out _ (by omega) r1).mono ?_; rintro e w' ⟨rfl, rfl⟩
       go_wp2_with fail
       refine (isWorstOf_len a2 (cap - k) (zs.length - k) R Hlr.out _ W2.out _ (by omega) r2).mono ?_; rintro e w' ⟨rfl, rfl⟩
       go_wp2
       go_ret
       exact ⟨rfl, B6⟩
     · obtain rfl : x0 = x2 := by rw [HL.out, if_neg (by rw [hcr]; simp [hlt])]
       refine (hasColor_len a (cap) (k) L Hll.out _ (by omega) r1).mono ?_; rintro e w' ⟨rfl, rfl⟩
       go_wp2_with fail
       refine (hasColor_len a2 (cap - k) (zs.length - k) R Hlr.out _ (by omega) r2).mono ?_; rintro e w' ⟨rfl, rfl⟩
       go_wp2_with fail
       refine (isWorstOf_len a (cap) (zs.length) zs rfl _ W0.out _ (by omega) r0).mono ?_; rintro e w' ⟨rfl, rfl⟩
       go_wp2_with fail
       refine (isWorstOf_len a (cap) (k) L Hll.out _ W1.out _ (by omega) r1).mono ?_; rintro e w' ⟨rfl, rfl⟩
       go_wp2_with fail
       refine (isWorstOf_len a2 (cap - k) (zs.length - k) R Hlr.out _ W2.out _ (by omega) r2).mono ?_; rintro e w' ⟨rfl, rfl⟩
       go_wp2
       go_ret
       exact ⟨rfl, B6⟩

set_option maxRecDepth 100000 in
set_option maxHeartbeats 400000 in
/-- The inputs that the law lets pass. -/
theorem splits_out (a : Option Addr) (len cap : Nat) (i : Int) (w : World) (hm : len ≤ 9223372036854775807) (hout : 1048576 < len ∨ i < 0 ∨ (len : Int) < i) :
    Calls Try.prog 3 #[.slice a len cap, .int .i64 i] w fun e w' => e = .returned (.bool true) ∧ Below w.heap.size w w' := by
  by_cases h1 : len ≤ 1048576
  · have hd : decide (len ≤ 1048576) = true := decide_eq_true h1
    by_cases h2 : i < 0
    · go_enter Try.func3, Try.ntmps3
      go_wp2_with (go_at_call 9; refine (zzBytesS_any _ _ _ _ _ hm).mono ?_; rintro e w' ⟨rfl, rfl⟩)
      go_ret
      exact ⟨rfl, Below.refl _ _⟩
    · have h3 : (len : Int) < i := by omega
      go_enter Try.func3, Try.ntmps3
      go_wp2_with (go_at_call 9; refine (zzBytesS_any _ _ _ _ _ hm).mono ?_; rintro e w' ⟨rfl, rfl⟩)
      go_ret
      exact ⟨rfl, Below.refl _ _⟩
  · have hd : decide (len ≤ 1048576) = false := decide_eq_false h1
    go_enter Try.func3, Try.ntmps3
    go_wp2_with (go_at_call 9; refine (zzBytesS_any _ _ _ _ _ hm).mono ?_; rintro e w' ⟨rfl, rfl⟩)
    go_ret
    exact ⟨rfl, Below.refl _ _⟩

end Go.Proofs.Qxb6608833a
