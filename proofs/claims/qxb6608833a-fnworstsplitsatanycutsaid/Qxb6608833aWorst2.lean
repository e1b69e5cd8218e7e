import Derived.Test.Qxb6608833aWorst
namespace Go.Proofs.Qxb6608833a
open Go.RowKit Go.Shelf

attribute [local go_sem] Oper.semAt_some

theorem step_yes {acc x : Int} (hx : 1 ≤ x ∧ x ≤ 6) (h : acc = 0 ∨ x < acc) : stepW acc x = x := by unfold stepW; rw [if_pos ⟨hx.1, hx.2, h⟩]
theorem step_no {acc x : Int} (h : ¬ (1 ≤ x ∧ x ≤ 6 ∧ (acc = 0 ∨ x < acc))) : stepW acc x = acc := by unfold stepW; rw [if_neg h]

set_option maxRecDepth 100000 in
set_option maxHeartbeats 2000000 in
theorem worst_any (Bs cap : Nat) (a : Option Addr) (zs : List Int) (w : World) (hreach : zs.length ≤ 1048577) (hBs : Bs < w.heap.size)
    (hc : w.cell? ⟨Bs, 0, none⟩ = some (.slice a zs.length cap)) (hR : Row w a zs) :
    Calls Try.prog 37 #[.func (.func 53) #[] #[.pointer (some ⟨Bs, 0, none⟩)]] w fun e W' => e = .returned (.int .u8 (worst zs)) ∧ Below w.heap.size w W' := by
  refine (callsIn_wide (n := 4)).1 ?_
  refine callsIn_of_wp_marks Try.func37 rfl trivial ?_ rfl
  simp only [Try.ntmps37, List.size_toArray, List.length_cons, List.length_nil, Nat.reduceAdd, Nat.reduceSub, Array.replicate_succ, Array.replicate_zero, List.push_toArray, List.append_toArray, List.nil_append, List.cons_append]
  gi_wp2
  have bS := Boxed.new w 24 (.int .u8 0)
  have hB0 : Below w.heap.size w (w.alloc (.cells #[.int .u8 0] 24)) := (Below.refl _ w).alloc (Nat.le_refl _) _
  refine wpIn_rangeFunc_ownG rfl (by omega) (gf := 53) (lb := #[.pointer (some ⟨Bs, 0, none⟩)]) rfl trivial (enters_of Try.func53 (by kernel_rfl) rfl)
    (values_stops Fence.wide _ trivial rfl (by omega) Bs w.heap.size cap a zs hreach _ (by simp; omega) (by simp) ((hB0.cell (p := ⟨Bs, 0, none⟩) hBs).trans hc)
      (hR.elim .inl (fun ⟨b, off, e, hb, hcs⟩ => .inr ⟨b, off, e, hb, fun j hj => (hB0.cell (p := ⟨b, off + j, none⟩) hb).trans (hcs j hj)⟩))) belowK_t (belowK_b (by simp)) (Below.refl _ _) (fun _ => rfl)
    (fun pre W => (W.cell? ⟨w.heap.size, 0, none⟩ = some (.int .u8 (worst0 pre)) ∧ W.frozen? ⟨w.heap.size, 0, none⟩ = false) ∧ Below w.heap.size w W)
    (fun _ _ _ => False)
    (OwnFrom.and (Own.from (fun s A B row hs hg hr => ⟨cell_kept hs.1 hg hr, (frozen_kept hs.1 hg hr).trans hs.2⟩) _) (ownFrom_below (Nat.le_refl _) (by simp)))
    (fun _ _ _ _ _ hs _ _ => hs)
    ⟨⟨bS.cell, bS.frozen⟩, hB0⟩
    (fun x => { tmps := #[.func (.func 53) #[] #[.pointer (some ⟨Bs, 0, none⟩)], undef, .int .u8 0, .pointer (some ⟨w.heap.size, 0, none⟩), .int .u8 x, .func (.func 53) #[] #[.pointer (some ⟨Bs, 0, none⟩)], .int .u8 x, undef, undef, undef, undef, undef, undef, undef, undef, undef, undef, undef, undef, undef, undef, undef], defers := [] }) ?assign ?body ?done ?stop
  case assign =>
    intro l x W K hK
    gi_wp2
    exact hK
  case body =>
    rintro l pre x W ⟨⟨hc, hf⟩, hB⟩ _
    have hs := worst0_snoc pre x
    have hbd := worst0_bd pre
    have HS : Hid (worst0 (pre ++ [x]) = stepW (worst0 pre) x) := hs
    clear hs
    generalize worst0 pre = acc at *
    by_cases hx1 : 1 ≤ x ∧ x ≤ 6
    · have hk : isCol x = true := (isCol_iff x).2 hx1
      by_cases ha : acc = 0
      · subst ha
        gi_wp2_with (refine ⟨trivial, ?_⟩; gi_at_call 52; refine (CallsIn.inRound l (callsIn_wide.2 (known_any _ _))).mono ?_; rintro e w' ⟨rfl, rfl⟩)
        exact ⟨(KeepsOthers.setCell _ _ _).from _, (Below.refl w.heap.size _).setCell (p := ⟨w.heap.size, 0, none⟩) (Nat.le_refl _) _, ⟨by rw [HS.out, step_yes hx1 (by omega)]; exact World.cell?_setCell_same' _ _ _ (by rw [hc]; rfl), by rw [World.frozen?_setCell]; exact hf⟩, hB.setCell (p := ⟨w.heap.size, 0, none⟩) (Nat.le_refl _) _⟩
      · have ha' : (acc == 0) = false := by simp [ha]
        by_cases hlt : x < acc
        · gi_wp2_with (refine ⟨trivial, ?_⟩; gi_at_call 52; refine (CallsIn.inRound l (callsIn_wide.2 (known_any _ _))).mono ?_; rintro e w' ⟨rfl, rfl⟩)
          exact ⟨(KeepsOthers.setCell _ _ _).from _, (Below.refl w.heap.size _).setCell (p := ⟨w.heap.size, 0, none⟩) (Nat.le_refl _) _, ⟨by rw [HS.out, step_yes hx1 (by omega)]; exact World.cell?_setCell_same' _ _ _ (by rw [hc]; rfl), by rw [World.frozen?_setCell]; exact hf⟩, hB.setCell (p := ⟨w.heap.size, 0, none⟩) (Nat.le_refl _) _⟩
        · gi_wp2_with (refine ⟨trivial, ?_⟩; gi_at_call 52; refine (CallsIn.inRound l (callsIn_wide.2 (known_any _ _))).mono ?_; rintro e w' ⟨rfl, rfl⟩)
          exact ⟨KeepsFrom.refl _ _, Below.refl _ _, ⟨by rw [HS.out, step_no (by omega)]; exact hc, hf⟩, hB⟩
    · have hk : isCol x = false := (isCol_no x).2 hx1
      gi_wp2_with (refine ⟨trivial, ?_⟩; gi_at_call 52; refine (CallsIn.inRound l (callsIn_wide.2 (known_any _ _))).mono ?_; rintro e w' ⟨rfl, rfl⟩)
      exact ⟨KeepsFrom.refl _ _, Below.refl _ _, ⟨by rw [HS.out, step_no (by omega)]; exact hc, hf⟩, hB⟩
  case done =>
    rintro D ys W hD rfl ⟨⟨hc, _⟩, hB⟩ hK
    by_cases h0 : worst0 ys = 0
    · have hw : worst ys = 5 := by unfold worst; rw [if_pos h0]
      rw [h0] at hc
      gi_wp2
      refine ⟨by simp, .inl ⟨_, _, rfl, run_takeDeferred hK, ?_⟩⟩
      exact ⟨_, results_tmp rfl _ _ _, by rw [hw]; rfl, hB.trans (belowK_b (w := w) (Nat.le_refl _) W D _ _ (by simp at hD; omega) hK rfl rfl)⟩
    · have hw : worst ys = worst0 ys := by unfold worst; rw [if_neg h0]
      have h0' : (worst0 ys == 0) = false := by simp [h0]
      gi_wp2
      refine ⟨by simp, .inl ⟨_, _, rfl, run_takeDeferred hK, ?_⟩⟩
      exact ⟨_, results_tmp rfl _ _ _, by rw [hw]; rfl, hB.trans (belowK_b (w := w) (Nat.le_refl _) W D _ _ (by simp at hD; omega) hK rfl rfl)⟩
  case stop =>
    rintro D c pre W _ _ h _
    exact h.elim


set_option maxHeartbeats 400000 in
theorem worstOf_any (cap : Nat) (a : Option Addr) (zs : List Int) (w : World) (hreach : zs.length ≤ 1048577) (hR : Row w a zs) :
    Calls Try.prog 10 #[.slice a zs.length cap] w fun e W' => e = .returned (.int .u8 (worst zs)) ∧ Below w.heap.size w W' := by
  have hB : Below w.heap.size w (w.alloc (.cells #[.slice a zs.length cap] 26)) := (Below.refl _ w).alloc (Nat.le_refl _) _
  have bS := Boxed.new w 26 (.slice a zs.length cap)
  go_enter Try.func10, Try.ntmps10
  go_wp2_with fail
  refine ((callsIn_wide (n := 4)).1 (values_in Fence.wide 4 trivial rfl a zs.length cap w)).mono ?_
  rintro e w' ⟨rfl, rfl⟩
  go_wp2_with fail
  refine (worst_any w.heap.size cap a zs _ hreach (by simp) bS.cell (hR.below hB)).mono ?_
  rintro e w' ⟨rfl, hb⟩
  go_wp2
  go_ret
  exact ⟨rfl, hB.trans (hb.mono (by simp))⟩

end Go.Proofs.Qxb6608833a
