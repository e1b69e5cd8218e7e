import Derived.Test.Qxb6608833aMade
import Derived.Test.Qxb6608833aWorst2
namespace Go.Proofs.Qxb6608833a
open Go.RowKit

theorem one_new (w : World) (v : Value) (t : TypeId) : ∀ (j : Nat) (u : Value), [v][j]? = some u → (w.alloc (.cells #[v] t)).cell? ((⟨w.heap.size, 0, none⟩ : Addr).add j) = some u := by
  intro j u hj
  match j, hj with
  | 0, hj => simp at hj; subst hj; simp [Addr.add]

theorem one_cell (k : IntKind) (x : Int) : ∀ u ∈ [Value.int k x], u.oneCell' = true := by
  intro u hu; simp at hu; subst hu; rfl

theorem take_map_succ (zs : List Int) (k : Nat) (hk : k < zs.length) : (zs.take k).map (Value.int .u8) ++ [.int .u8 (zs[k]?.getD 0)] = (zs.take (k + 1)).map (Value.int .u8) := by
  rw [List.take_succ_eq_append_getElem hk, List.getElem?_eq_getElem hk]
  simp only [List.map_append, List.map_cons, List.map_nil, Option.getD_some]

/-- What t holds when the second loop has come as far as m. -/
def withC (zs : List Int) (k : Nat) (c : Int) (m : Nat) : List Int := zs.take k ++ [c] ++ (zs.take m).drop k
theorem withC_start (zs : List Int) (k : Nat) (c : Int) : withC zs k c k = zs.take k ++ [c] := by
  unfold withC; rw [List.drop_eq_nil_of_le (by simp; omega)]; simp
theorem withC_succ (zs : List Int) (k m : Nat) (c : Int) (hkm : k ≤ m) (hm : m < zs.length) : (withC zs k c m).map (Value.int .u8) ++ [.int .u8 (zs[m]?.getD 0)] = (withC zs k c (m + 1)).map (Value.int .u8) := by
  unfold withC
  rw [List.take_succ_eq_append_getElem hm, List.getElem?_eq_getElem hm, List.drop_append_of_le_length (by simp; omega)]
  simp only [List.map_append, List.map_cons, List.map_nil, Option.getD_some, List.append_assoc]
theorem withC_length (zs : List Int) (k m : Nat) (c : Int) (hkm : k ≤ m) (hm : m ≤ zs.length) : (withC zs k c m).length = m + 1 := by
  simp [withC]; omega
theorem withC_all (zs : List Int) (k : Nat) (c : Int) : withC zs k c zs.length = zs.take k ++ [c] ++ zs.drop k := by
  simp [withC]

set_option maxRecDepth 100000 in
set_option maxHeartbeats 1000000 in
theorem takes_main (a : Option Addr) (cap : Nat) (zs : List Int) (k : Nat) (c : Int) (w : World) (hl : zs.length ≤ 1048576) (hR : Row w a zs) (hk : k ≤ zs.length) :
    Calls Try.prog 4 #[.slice a zs.length cap, .int .i64 k, .int .u8 c] w fun e w' => e = .returned (.bool true) ∧ Below w.heap.size w w' := by
  obtain ⟨i0, hi, hz0, hz1, hz2⟩ := info_parts Try.info24
  have d1 : decide ((1048576 : Int) < (zs.length : Int)) = false := decide_eq_false (by omega)
  have d2 : decide ((k : Int) < 0) = false := decide_eq_false (by omega)
  have hd : decide (zs.length ≤ 1048576) = true := decide_eq_true hl
  go_enter Try.func4, Try.ntmps4
  go_wp2_with (first | (go_at_call 14; refine (zzBytesT_any _ _ _ _ _ _ (by omega)).mono ?_; rintro e w' ⟨rfl, rfl⟩) | (at_make; refine wpList_make_own _ rfl _ _ 26 rfl w.heap.size 24 i0 (.int .u8 0) 1 Try.underlying26 hi hz0 hz1 _ _ _ (zs.length + 1) rfl rfl (by omega) (by rw [hz2]; omega) (by unfold maxLen; omega) (Nat.le_refl _) ?_; intro w1 hown hgrow))
  have hB : Below w.heap.size w w1 := (Below.refl _ _).grown hgrow (Nat.le_refl _) (fun k e => by cases e)
  clear hgrow
  go_loopw [7, 8] (fun t j wr => ∃ m : Nat, m ≤ k ∧ j = .int .i64 m ∧ t = .slice (some ⟨w.heap.size, 0, none⟩) m (zs.length + 1) ∧ wr.ownsRow w.heap.size 24 1 (.slice (some ⟨w.heap.size, 0, none⟩) m (zs.length + 1)) m ((zs.take m).map (Value.int .u8)) ∧ Below w.heap.size w wr) (fun _ j _ => k - (intOf j).toNat)
  case atStart => exact ⟨0, Nat.zero_le _, rfl, rfl, hown, hB⟩
  case round =>
    obtain ⟨m, hm, rfl, rfl, hown1, hnx⟩ := hrel
    clear hown hB
    by_cases hlt : m < k
    · rcases hR with rfl | ⟨b, off, rfl, hb, hc⟩
      · simp at hk; omega
      have hcx : wr.cell? ⟨b, off + m, none⟩ = some (.int .u8 (zs[m]?.getD 0)) := (hnx.cell (p := ⟨b, off + m, none⟩) hb).trans (hc m (by omega))
      have hts := take_map_succ zs m (by omega)
      generalize zs[m]?.getD 0 = x at hcx hts
      have HT : Hid ((zs.take m).map (Value.int .u8) ++ [.int .u8 x] = (zs.take (m + 1)).map (Value.int .u8)) := hts
      clear hts hc
      have hsz := hnx.size
      go_wp2_with (at_builtin; refine wpList_append_fits _ rfl _ _ 26 rfl w.heap.size 24 i0 1 Try.underlying26 hi hz1 w.heap.size m (zs.length + 1) _ rfl (hown1.alloc _) ⟨wr.heap.size, 0, none⟩ 1 1 [.int .u8 x] rfl rfl (one_new _ _ _) (one_cell _ _) (by omega) ?_; intro w2 hown2 hgrow2)
      have R1 : w2.ownsRow w.heap.size 24 1 (.slice (some ⟨w.heap.size, 0, none⟩) (m + 1) (zs.length + 1)) (m + 1) ((zs.take (m + 1)).map (Value.int .u8)) := by rw [← HT.out]; exact hown2
      have R2 : Below w.heap.size w w2 := (hnx.alloc hsz _).grown hgrow2 (by simp; omega) (fun k e => by cases e; exact Nat.le_refl _)
      clear hown2 hgrow2 hown1
      go_roundw
      case rel => exact ⟨m + 1, by omega, by go_num, rfl, R1, R2⟩
      case measure => simp [intOf]; omega
    · obtain rfl : m = k := by omega
      have hsz := hnx.size
      go_wp2_with (at_builtin; refine wpList_append_fits _ rfl _ _ 26 rfl w.heap.size 24 i0 1 Try.underlying26 hi hz1 w.heap.size m (zs.length + 1) _ rfl (hown1.alloc _) ⟨wr.heap.size, 0, none⟩ 1 1 [.int .u8 c] rfl rfl (one_new _ _ _) (one_cell _ _) (by omega) ?_; intro w2 hown2 hgrow2)
      have R1 : w2.ownsRow w.heap.size 24 1 (.slice (some ⟨w.heap.size, 0, none⟩) (m + 1) (zs.length + 1)) (m + 1) ((withC zs m c m).map (Value.int .u8)) := by
        rw [withC_start, List.map_append]; exact hown2
      have R2 : Below w.heap.size w w2 := (hnx.alloc hsz _).grown hgrow2 (by simp; omega) (fun k e => by cases e; exact Nat.le_refl _)
      clear hown2 hgrow2 hown1 hnx hsz
      go_loopw [7, 9] (fun t j wr => ∃ q : Nat, m ≤ q ∧ q ≤ zs.length ∧ j = .int .i64 q ∧ t = .slice (some ⟨w.heap.size, 0, none⟩) (q + 1) (zs.length + 1) ∧ wr.ownsRow w.heap.size 24 1 (.slice (some ⟨w.heap.size, 0, none⟩) (q + 1) (zs.length + 1)) (q + 1) ((withC zs m c q).map (Value.int .u8)) ∧ Below w.heap.size w wr) (fun _ j _ => zs.length - (intOf j).toNat)
      case atStart => exact ⟨m, Nat.le_refl _, by omega, rfl, rfl, R1, R2⟩
      case round =>
        obtain ⟨q, hmq, hq, rfl, rfl, hown3, hnx⟩ := hrel
        clear R1 R2
        have hsz := hnx.size
        by_cases hlt2 : q < zs.length
        · rcases hR with rfl | ⟨b, off, rfl, hb, hc⟩
          · simp at hlt2
          have hcx : wr.cell? ⟨b, off + q, none⟩ = some (.int .u8 (zs[q]?.getD 0)) := (hnx.cell (p := ⟨b, off + q, none⟩) hb).trans (hc q hlt2)
          have hts := withC_succ zs m q c hmq hlt2
          generalize zs[q]?.getD 0 = x at hcx hts
          have HT : Hid ((withC zs m c q).map (Value.int .u8) ++ [.int .u8 x] = (withC zs m c (q + 1)).map (Value.int .u8)) := hts
          clear hts hc
          go_wp2_with (at_builtin; refine wpList_append_fits _ rfl _ _ 26 rfl w.heap.size 24 i0 1 Try.underlying26 hi hz1 w.heap.size (q + 1) (zs.length + 1) _ rfl (hown3.alloc _) ⟨wr.heap.size, 0, none⟩ 1 1 [.int .u8 x] rfl rfl (one_new _ _ _) (one_cell _ _) (by omega) ?_; intro w2 hown2 hgrow2)
          have R1 : w2.ownsRow w.heap.size 24 1 (.slice (some ⟨w.heap.size, 0, none⟩) (q + 1 + 1) (zs.length + 1)) (q + 1 + 1) ((withC zs m c (q + 1)).map (Value.int .u8)) := by rw [← HT.out]; exact hown2
          have R2 : Below w.heap.size w w2 := (hnx.alloc hsz _).grown hgrow2 (by simp; omega) (fun k e => by cases e; exact Nat.le_refl _)
          clear hown2 hgrow2 hown3
          go_roundw
          case rel => exact ⟨q + 1, by omega, by omega, by go_num, rfl, R1, R2⟩
          case measure => simp [intOf]; omega
        · obtain rfl : q = zs.length := by omega
          have hlen := withC_length zs m zs.length c hmq hq
          have hT : Row wr (some ⟨w.heap.size, 0, none⟩) (withC zs m c zs.length) := row_of_owned (cap := zs.length + 1) (by rw [hlen]; exact hown3)
          have law := worst_insert (zs.take m) (zs.drop m) c
          rw [← withC_all, List.take_append_drop] at law
          generalize withC zs m c zs.length = L at hT law hlen hown3
          have HL : Hid (worst L = if isCol c = true ∧ (hasCol zs = false ∨ c < worst zs) then c else worst zs) := law
          clear law hown3
          have Hlen : Hid (L.length = zs.length + 1) := hlen
          clear hlen
          have hwc := worst_isCol zs
          have hRr := hR.below hnx
          go_wp2_with fail
          refine (toColors_any a cap zs wr hl hRr).mono ?_
          rintro e w2 ⟨rfl, hr2, hb2⟩
          go_wp2_with fail
          refine (worstOf_any zs.length _ zs w2 (by omega) hr2).mono ?_
          rintro e w3 ⟨rfl, hb3⟩
          go_wp2_with fail
          rw [← Hlen.out]
          refine (worstOf_any _ _ L w3 (by rw [Hlen.out]; omega) ((hT.below hb2).below hb3)).mono ?_
          rintro e w4 ⟨rfl, hb4⟩
          have hRr4 := ((hRr.below hb2).below hb3).below hb4
          have hB4 : Below w.heap.size w w4 := ((hnx.trans (hb2.mono (by omega))).trans (hb3.mono (by have := hb2.size; omega))).trans (hb4.mono (by have := hb2.size; have := hb3.size; omega))
          clear hb2 hb3 hb4 hr2 hT hRr hnx hsz
          cases hcc : isCol c with
          | false =>
            have e : worst L = worst zs := by rw [HL.out, if_neg (by rw [hcc]; simp)]
            rw [e]
            go_wp2_with (first | (go_at_call 15; refine (isColor_any _ _).mono ?_; rintro e w' ⟨rfl, rfl⟩))
            go_ret
            exact ⟨rfl, hB4⟩
          | true =>
            cases hhc : hasCol zs with
            | false =>
              have e : worst L = c := by rw [HL.out, if_pos ⟨hcc, .inl hhc⟩]
              rw [e]
              go_wp2_with (first | (go_at_call 15; refine (isColor_any _ _).mono ?_; rintro e w' ⟨rfl, rfl⟩) | (go_at_call 12; refine (hasColor_any _ _ zs _ hl hRr4).mono ?_; rintro e w' ⟨rfl, rfl⟩))
              go_ret
              exact ⟨rfl, hB4⟩
            | true =>
              by_cases hcw : c < worst zs
              · have e : worst L = c := by rw [HL.out, if_pos ⟨hcc, .inr hcw⟩]
                rw [e]
                go_wp2_with (first | (go_at_call 15; refine (isColor_any _ _).mono ?_; rintro e w' ⟨rfl, rfl⟩) | (go_at_call 12; refine (hasColor_any _ _ zs _ hl hRr4).mono ?_; rintro e w' ⟨rfl, rfl⟩))
                go_ret
                exact ⟨rfl, hB4⟩
              · have e : worst L = worst zs := by rw [HL.out, if_neg (by rw [hhc]; simp [hcw])]
                rw [e]
                go_wp2_with (first | (go_at_call 15; refine (isColor_any _ _).mono ?_; rintro e w' ⟨rfl, rfl⟩) | (go_at_call 12; refine (hasColor_any _ _ zs _ hl hRr4).mono ?_; rintro e w' ⟨rfl, rfl⟩))
                go_ret
                exact ⟨rfl, hB4⟩


set_option maxRecDepth 100000 in
set_option maxHeartbeats 400000 in
/-- The inputs that the law lets pass. -/
theorem takes_out (a : Option Addr) (len cap : Nat) (i c : Int) (w : World) (hm : len ≤ 9223372036854775807) (hout : 1048576 < len ∨ i < 0 ∨ (len : Int) < i) :
    Calls Try.prog 4 #[.slice a len cap, .int .i64 i, .int .u8 c] w fun e w' => e = .returned (.bool true) ∧ Below w.heap.size w w' := by
  by_cases h1 : len ≤ 1048576
  · have hd : decide (len ≤ 1048576) = true := decide_eq_true h1
    by_cases h2 : i < 0
    · go_enter Try.func4, Try.ntmps4
      go_wp2_with (go_at_call 14; refine (zzBytesT_any _ _ _ _ _ _ hm).mono ?_; rintro e w' ⟨rfl, rfl⟩)
      go_ret
      exact ⟨rfl, Below.refl _ _⟩
    · have h3 : (len : Int) < i := by omega
      go_enter Try.func4, Try.ntmps4
      go_wp2_with (go_at_call 14; refine (zzBytesT_any _ _ _ _ _ _ hm).mono ?_; rintro e w' ⟨rfl, rfl⟩)
      go_ret
      exact ⟨rfl, Below.refl _ _⟩
  · have hd : decide (len ≤ 1048576) = false := decide_eq_false h1
    go_enter Try.func4, Try.ntmps4
    go_wp2_with (go_at_call 14; refine (zzBytesT_any _ _ _ _ _ _ hm).mono ?_; rintro e w' ⟨rfl, rfl⟩)
    go_ret
    exact ⟨rfl, Below.refl _ _⟩

end Go.Proofs.Qxb6608833a
