import Derived.Test.Qxb6608833aKBytes
import Derived.OwnWalk
import Derived.Handy
namespace Go.Proofs.Qxb6608833a
open Go.RowKit

theorem Try.info47 : (Try.prog.info? 47).map (fun i => (i.zero, i.size, i.bytes)) = some (some (.agg #[.string ⟨#[]⟩, .string ⟨#[]⟩]), 2, 32) := by kernel_rfl
theorem Try.info103 : (Try.prog.info? 103).map (fun i => (i.zero, i.size, i.bytes)) = some (some (.agg #[.string ⟨#[]⟩, .string ⟨#[]⟩]), 2, 32) := by kernel_rfl

theorem own_below {w w' : World} {base : Nat} {e : TypeId} {size : Nat} {v : Value} {n : Nat} {xs : List Value} (h : w.ownsRow base e size v n xs) (hb : Below w.heap.size w w') : w'.ownsRow base e size v n xs := by
  refine ⟨h.1, ?_⟩
  rcases h.2 with hn | ⟨g, cap, cur, rfl, hg, hgg, rest⟩
  · exact .inl hn
  · exact .inr ⟨g, cap, cur, rfl, hg, (hb.block g (Array.getElem?_eq_some_iff.1 hgg).1).trans hgg, rest⟩

/-- The first k keys lie in these cells. -/
def KV (xs : List Value) (ks : List Key) (k : Nat) : Prop := ∀ j, j < k → xs[j * 2]? = some (.string (ks[j]?.getD nk).1) ∧ xs[j * 2 + 1]? = some (.string (ks[j]?.getD nk).2)

theorem KV.row {w : World} {base g cap : Nat} {e : TypeId} {ks : List Key} {xs : List Value} (hk : KV xs ks ks.length) (h : w.ownsRow base e 2 (.slice (some ⟨g, 0, none⟩) ks.length cap) ks.length xs) : KRow w (some ⟨g, 0, none⟩) ks := by
  refine .inr ⟨g, 0, rfl, (h.lt g rfl).2, fun j hj => ⟨?_, ?_⟩⟩
  · rw [Nat.zero_add, h.cellAt _ (by omega)]; exact (hk j hj).1
  · rw [Nat.zero_add, h.cellAt _ (by omega)]; exact (hk j hj).2

theorem KV.set {xs : List Value} {ks : List Key} {k : Nat} (h : KV xs ks k) (hl : xs.length = ks.length * 2) (hk : k < ks.length) : KV ((xs.set (k * 2) (.string (ks[k]?.getD nk).1)).set (k * 2 + 1) (.string (ks[k]?.getD nk).2)) ks (k + 1) := by
  intro j hj
  by_cases e : j = k
  · subst e
    constructor
    · rw [List.getElem?_set_ne (by omega), List.getElem?_set_self (by omega)]
    · rw [List.getElem?_set_self (by rw [List.length_set]; omega)]
  · obtain ⟨h1, h2⟩ := h j (by omega)
    constructor
    · rw [List.getElem?_set_ne (by omega), List.getElem?_set_ne (by omega)]; exact h1
    · rw [List.getElem?_set_ne (by omega), List.getElem?_set_ne (by omega)]; exact h2

set_option maxHeartbeats 400000 in
theorem makeKey_any (h t : ByteArray) (w : World) :
    Calls Try.prog 40 #[.string h, .string t] w fun e w' => e = .returned (.agg #[.string h, .string t]) ∧ Below w.heap.size w w' := by
  go_enter Try.func40, Try.ntmps40
  go_wp2
  go_returns
  exact ⟨rfl, (Below.refl _ _).alloc (Nat.le_refl _) _⟩

set_option maxHeartbeats 400000 in
theorem keyHost_any (h t : ByteArray) (w : World) :
    Calls Try.prog 44 #[.agg #[.string h, .string t]] w fun e w' => e = .returned (.string h) ∧ Below w.heap.size w w' := by
  go_enter Try.func44, Try.ntmps44
  go_wp2
  go_ret
  exact ⟨rfl, (Below.refl _ _).alloc (Nat.le_refl _) _⟩

set_option maxHeartbeats 400000 in
theorem keyTest_any (h t : ByteArray) (w : World) :
    Calls Try.prog 45 #[.agg #[.string h, .string t]] w fun e w' => e = .returned (.string t) ∧ Below w.heap.size w w' := by
  go_enter Try.func45, Try.ntmps45
  go_wp2
  go_ret
  exact ⟨rfl, (Below.refl _ _).alloc (Nat.le_refl _) _⟩

set_option maxRecDepth 100000 in
set_option maxHeartbeats 2000000 in
theorem buildOrder_any (a : Option Addr) (cap : Nat) (ks : List Key) (w : World) (hl : ks.length ≤ 1048577) (hR : KRow w a ks) :
    Calls Try.prog 21 #[.slice a ks.length cap] w fun e w' => ∃ xs, e = .returned (.slice (some ⟨w.heap.size, 0, none⟩) ks.length ks.length) ∧ w'.ownsRow w.heap.size 103 2 (.slice (some ⟨w.heap.size, 0, none⟩) ks.length ks.length) ks.length xs ∧ KV xs ks ks.length ∧ Below w.heap.size w w' := by
  obtain ⟨i0, hi, hz0, hz1, hz2⟩ := info_parts Try.info103
  go_enter Try.func21, Try.ntmps21
  go_wp2_with (at_make; refine wpList_make_full _ rfl _ _ 40 rfl w.heap.size 103 i0 (.agg #[.string ⟨#[]⟩, .string ⟨#[]⟩]) 2 Try.underlying40 hi hz0 hz1 _ _ _ _ ks.length rfl rfl rfl rfl (by rw [hz2]; omega) (by unfold maxLen; omega) (Nat.le_refl _) ?_; intro w1 hown hgrow)
  have hB : Below w.heap.size w w1 := (Below.refl _ _).grown hgrow (Nat.le_refl _) (fun k e => by cases e)
  clear hgrow
  generalize (madeCells (Value.agg #[.string ⟨#[]⟩, .string ⟨#[]⟩]).cells (ks.length * 2)).toList = xs0 at hown
  go_loopw [4] (fun i wr => ∃ (k : Nat) (xs : List Value), k ≤ ks.length ∧ i = .int .i64 k ∧ KV xs ks k ∧ wr.ownsRow w.heap.size 103 2 (.slice (some ⟨w.heap.size, 0, none⟩) ks.length ks.length) ks.length xs ∧ Below w.heap.size w wr) (fun i _ => ks.length - (intOf i).toNat)
  case atStart => exact ⟨0, xs0, Nat.zero_le _, rfl, fun j hj => by omega, hown, hB⟩
  case round =>
    obtain ⟨k, xs, hk, rfl, hkv, hown, hnx⟩ := hrel
    clear hB
    by_cases hlt : k < ks.length
    · rcases hR with rfl | ⟨b, off, rfl, hb, hc⟩
      · simp at hlt
      have x0 := (hnx.cell (p := ⟨b, off + k * 2, none⟩) hb).trans (hc k hlt).1
      have x1 := (hnx.cell (p := ⟨b, off + k * 2 + 1, none⟩) hb).trans (hc k hlt).2
      have hbr : b < wr.heap.size := Nat.lt_of_lt_of_le hb hnx.size
      have hgr : w.heap.size < wr.heap.size := (hown.lt _ rfl).2
      have hlen : xs.length = ks.length * 2 := hown.1
      have c0 := hown.cellAt (k * 2) (by omega)
      have c1 := hown.cellAt (k * 2 + 1) (by omega)
      have f0 := hown.frozenAt (k * 2)
      have f1 := hown.frozenAt (k * 2 + 1)
      rw [List.getElem?_eq_getElem (by omega)] at c0 c1
      have HK := hkv.set hlen hlt
      generalize ks[k]?.getD nk = p at *
      generalize xs[k * 2] = o0 at c0
      generalize xs[k * 2 + 1] = o1 at c1
      have i0' : (0 : Int) ≤ (k : Int) := by omega
      have i1' : (k : Int) < (ks.length : Int) := by omega
      have HK' : Hid (KV ((xs.set (k * 2) (.string p.1)).set (k * 2 + 1) (.string p.2)) ks (k + 1)) := HK
      have HO : Hid (wr.ownsRow w.heap.size 103 2 (.slice (some ⟨w.heap.size, 0, none⟩) ks.length ks.length) ks.length xs) := hown
      clear hc HK hkv hown
      have hne : w.heap.size ≠ b := by omega
      generalize hG : w.heap.size = G at *
      go_wp2
      go_region_held3 (fun w' => w'.cell? ⟨b, off + k * 2, none⟩ = some (.string p.1) ∧ w'.cell? ⟨b, off + k * 2 + 1, none⟩ = some (.string p.2)) (first | (refine ⟨?_, ?_⟩ <;> (rw [hc']; assumption)) | (refine ⟨?_, ?_⟩ <;> go_simp) | go_keep) (first | (go_at_call 40; refine (makeKey_any p.1 p.2 _).mono ?_; rintro e w' ⟨rfl, hb'⟩; have hc' : ∀ o, w'.cell? ⟨b, o, none⟩ = wr.cell? ⟨b, o, none⟩ := fun o => hb'.cell (p := ⟨b, o, none⟩) hbr; have g0 : w'.cell? ⟨G, k * 2, none⟩ = some o0 := (hb'.cell (p := ⟨G, k * 2, none⟩) hgr).trans c0; have g1 : w'.cell? ⟨G, k * 2 + 1, none⟩ = some o1 := (hb'.cell (p := ⟨G, k * 2 + 1, none⟩) hgr).trans c1; have g2 : w'.frozen? ⟨G, k * 2, none⟩ = false := (hb'.frozen (p := ⟨G, k * 2, none⟩) hgr).trans f0; have g3 : w'.frozen? ⟨G, k * 2 + 1, none⟩ = false := (hb'.frozen (p := ⟨G, k * 2 + 1, none⟩) hgr).trans f1))
      have hB1 : Below wr.heap.size wr w' := (Below.refl _ _).drew.trans hb'
      have R1 := (((own_below HO.out hB1).stored (k * 2) (.string p.1)).1.stored (k * 2 + 1) (.string p.2)).1
      have R2 : Below G w w' := hnx.trans (hB1.mono (Nat.le_of_lt hgr))
      have R3 := (R2.setCell (p := ⟨G, k * 2, none⟩) (Nat.le_refl _) (.string p.1)).setCell (p := ⟨G, k * 2 + 1, none⟩) (Nat.le_refl _) (.string p.2)
      go_wp2
      go_roundw
      case rel => exact ⟨k + 1, _, by omega, by go_num, HK'.out, R1, R3⟩
      case measure => simp [intOf]; omega
    · obtain rfl : k = ks.length := by omega
      go_wp2
      go_ret
      exact ⟨xs, rfl, hown, hkv, hnx⟩

set_option maxRecDepth 100000 in
set_option maxHeartbeats 2000000 in
theorem readOrder_any (a : Option Addr) (cap : Nat) (ks : List Key) (w : World) (hl : ks.length ≤ 1048577) (hR : KRow w a ks) :
    Calls Try.prog 23 #[.slice a ks.length cap] w fun e w' => ∃ xs, e = .returned (.slice (some ⟨w.heap.size, 0, none⟩) ks.length ks.length) ∧ w'.ownsRow w.heap.size 47 2 (.slice (some ⟨w.heap.size, 0, none⟩) ks.length ks.length) ks.length xs ∧ KV xs ks ks.length ∧ Below w.heap.size w w' := by
  obtain ⟨i0, hi, hz0, hz1, hz2⟩ := info_parts Try.info47
  go_enter Try.func23, Try.ntmps23
  go_wp2_with (at_make; refine wpList_make_full _ rfl _ _ 32 rfl w.heap.size 47 i0 (.agg #[.string ⟨#[]⟩, .string ⟨#[]⟩]) 2 Try.underlying32 hi hz0 hz1 _ _ _ _ ks.length rfl rfl rfl rfl (by rw [hz2]; omega) (by unfold maxLen; omega) (Nat.le_refl _) ?_; intro w1 hown hgrow)
  have hB : Below w.heap.size w w1 := (Below.refl _ _).grown hgrow (Nat.le_refl _) (fun k e => by cases e)
  clear hgrow
  generalize (madeCells (Value.agg #[.string ⟨#[]⟩, .string ⟨#[]⟩]).cells (ks.length * 2)).toList = xs0 at hown
  go_loopw [4] (fun i wr => ∃ (k : Nat) (xs : List Value), k ≤ ks.length ∧ i = .int .i64 k ∧ KV xs ks k ∧ wr.ownsRow w.heap.size 47 2 (.slice (some ⟨w.heap.size, 0, none⟩) ks.length ks.length) ks.length xs ∧ Below w.heap.size w wr) (fun i _ => ks.length - (intOf i).toNat)
  case atStart => exact ⟨0, xs0, Nat.zero_le _, rfl, fun j hj => by omega, hown, hB⟩
  case round =>
    obtain ⟨k, xs, hk, rfl, hkv, hown, hnx⟩ := hrel
    clear hB
    by_cases hlt : k < ks.length
    · rcases hR with rfl | ⟨b, off, rfl, hb, hc⟩
      · simp at hlt
      have x0 := (hnx.cell (p := ⟨b, off + k * 2, none⟩) hb).trans (hc k hlt).1
      have x1 := (hnx.cell (p := ⟨b, off + k * 2 + 1, none⟩) hb).trans (hc k hlt).2
      have hbr : b < wr.heap.size := Nat.lt_of_lt_of_le hb hnx.size
      have hgr : w.heap.size < wr.heap.size := (hown.lt _ rfl).2
      have hlen : xs.length = ks.length * 2 := hown.1
      have c0 := hown.cellAt (k * 2) (by omega)
      have c1 := hown.cellAt (k * 2 + 1) (by omega)
      have f0 := hown.frozenAt (k * 2)
      have f1 := hown.frozenAt (k * 2 + 1)
      rw [List.getElem?_eq_getElem (by omega)] at c0 c1
      have HK := hkv.set hlen hlt
      generalize ks[k]?.getD nk = p at *
      generalize xs[k * 2] = o0 at c0
      generalize xs[k * 2 + 1] = o1 at c1
      have i0' : (0 : Int) ≤ (k : Int) := by omega
      have i1' : (k : Int) < (ks.length : Int) := by omega
      have HK' : Hid (KV ((xs.set (k * 2) (.string p.1)).set (k * 2 + 1) (.string p.2)) ks (k + 1)) := HK
      have HO : Hid (wr.ownsRow w.heap.size 47 2 (.slice (some ⟨w.heap.size, 0, none⟩) ks.length ks.length) ks.length xs) := hown
      clear hc HK hkv hown
      have hne : w.heap.size ≠ b := by omega
      generalize hG : w.heap.size = G at *
      go_wp2
      have BB : Below wr.heap.size wr wr.drew := (Below.refl _ _).drew
      go_region_held3 (fun w' => w'.cell? ⟨b, off + k * 2, none⟩ = some (.string p.1) ∧ w'.cell? ⟨b, off + k * 2 + 1, none⟩ = some (.string p.2)) (first | (refine ⟨?_, ?_⟩ <;> (rw [hc']; assumption)) | (refine ⟨?_, ?_⟩ <;> go_simp) | go_keep) (first | (go_at_call 44; refine (keyHost_any p.1 p.2 _).mono ?_; rintro e w' ⟨rfl, hb'⟩; replace BB := BB.trans (hb'.mono BB.size); have hc' : ∀ o, w'.cell? ⟨b, o, none⟩ = wr.cell? ⟨b, o, none⟩ := fun o => BB.cell (p := ⟨b, o, none⟩) hbr; have g0 : w'.cell? ⟨G, k * 2, none⟩ = some o0 := (BB.cell (p := ⟨G, k * 2, none⟩) hgr).trans c0; have g1 : w'.cell? ⟨G, k * 2 + 1, none⟩ = some o1 := (BB.cell (p := ⟨G, k * 2 + 1, none⟩) hgr).trans c1; have g2 : w'.frozen? ⟨G, k * 2, none⟩ = false := (BB.frozen (p := ⟨G, k * 2, none⟩) hgr).trans f0; have g3 : w'.frozen? ⟨G, k * 2 + 1, none⟩ = false := (BB.frozen (p := ⟨G, k * 2 + 1, none⟩) hgr).trans f1) | (go_at_call 45; refine (keyTest_any p.1 p.2 _).mono ?_; rintro e w' ⟨rfl, hb'⟩; replace BB := BB.trans (hb'.mono BB.size); have hc' : ∀ o, w'.cell? ⟨b, o, none⟩ = wr.cell? ⟨b, o, none⟩ := fun o => BB.cell (p := ⟨b, o, none⟩) hbr; have g0 : w'.cell? ⟨G, k * 2, none⟩ = some o0 := (BB.cell (p := ⟨G, k * 2, none⟩) hgr).trans c0; have g1 : w'.cell? ⟨G, k * 2 + 1, none⟩ = some o1 := (BB.cell (p := ⟨G, k * 2 + 1, none⟩) hgr).trans c1; have g2 : w'.frozen? ⟨G, k * 2, none⟩ = false := (BB.frozen (p := ⟨G, k * 2, none⟩) hgr).trans f0; have g3 : w'.frozen? ⟨G, k * 2 + 1, none⟩ = false := (BB.frozen (p := ⟨G, k * 2 + 1, none⟩) hgr).trans f1))
      all_goals
        have hB1 : Below wr.heap.size wr w' := BB
        have R1 := (((own_below HO.out hB1).stored (k * 2) (.string p.1)).1.stored (k * 2 + 1) (.string p.2)).1
        have R2 : Below G w w' := hnx.trans (hB1.mono (Nat.le_of_lt hgr))
        have R3 := (R2.setCell (p := ⟨G, k * 2, none⟩) (Nat.le_refl _) (.string p.1)).setCell (p := ⟨G, k * 2 + 1, none⟩) (Nat.le_refl _) (.string p.2)
        go_wp2
        go_roundw
        case rel => exact ⟨k + 1, _, by omega, by go_num, HK'.out, R1, R3⟩
        case measure => simp [intOf]; omega
    · obtain rfl : k = ks.length := by omega
      go_wp2
      go_ret
      exact ⟨xs, rfl, hown, hkv, hnx⟩

end Go.Proofs.Qxb6608833a
