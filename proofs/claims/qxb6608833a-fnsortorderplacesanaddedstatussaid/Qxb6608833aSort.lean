import Derived.Test.Qxb6608833aLaid
import Derived.Test.Qxb6608833aOrders
import Derived.LoopN
namespace Go.Proofs.Qxb6608833a
open Go.RowKit Go.Shelf Go.Lib
open Go.Sort (HoldsK size_flatK get_flatK putRow putRowK mapBlock grow heap_grow_old PermIn SortedIn)

/-- A key's two cells. -/
def encK (x : Key) : List Value := [.string x.1, .string x.2]

set_option maxHeartbeats 1000000 in
theorem compare_any (a b : Key) (w : World) :
    Calls Try.prog 63 #[.agg #[.string a.1, .string a.2], .agg #[.string b.1, .string b.2]] w fun e w' => e = .returned (.int .i64 (cmpK a b)) ∧ ∃ q os', w' = Sort.grow (w.drewN q) os' := by
  have hcon := fun (x y : ByteArray) (W : World) => Any.strings_Compare Try.strCompare x y W
  change ∀ (x y : ByteArray) (W : World), Calls Try.prog 78 _ _ _ at hcon
  by_cases h0 : compareBytes a.1.data.toList b.1.data.toList = 0
  · have e : cmpK a b = compareBytes a.2.data.toList b.2.data.toList := by unfold cmpK; rw [if_pos h0]
    rw [e]
    have HZ : Hid (compareBytes a.1.data.toList b.1.data.toList = 0) := h0
    clear h0 e
    go_enter Try.func63, Try.ntmps63
    go_wp2_with fail
    refine (hcon a.1 b.1 _).mono ?_
    rintro e w1 ⟨rfl, rfl⟩
    rw [HZ.out]
    go_wp2_with fail
    refine (hcon a.2 b.2 _).mono ?_
    rintro e w2 ⟨rfl, rfl⟩
    go_wp2
    go_ret
    exact ⟨rfl, 0, _, by rw [Sort.alloc_eq_grow, Sort.alloc_eq_grow, Sort.grow_grow]; rfl⟩
  · have e : cmpK a b = compareBytes a.1.data.toList b.1.data.toList := by unfold cmpK; rw [if_neg h0]
    rw [e]
    clear e
    go_enter Try.func63, Try.ntmps63
    go_wp2_with fail
    refine (hcon a.1 b.1 _).mono ?_
    rintro e w1 ⟨rfl, rfl⟩
    generalize hzz : compareBytes a.1.data.toList b.1.data.toList = z at *
    have HZ : Hid (compareBytes a.1.data.toList b.1.data.toList = z) := hzz
    clear hzz
    have hz : (z != 0) = true := by simp [h0]
    go_wp2
    go_ret
    exact ⟨vi (by rw [HZ.out]), 0, _, by rw [Sort.alloc_eq_grow, Sort.alloc_eq_grow, Sort.grow_grow]; rfl⟩

theorem cmpLays (blk off size : Nat) (w : World) : CmpLays Try.prog 63 #[] encK 2 cmpK blk off size w :=
  fun _ _ _ _ x y => compare_any x y _

theorem swoK : Sort.SWO (ltOf cmpK) := by
  refine ⟨fun x => ?_, fun x y z h1 h2 => ?_, fun x y z h1 h2 => ?_⟩
  · unfold ltOf; rw [cmpK_self]; rfl
  · unfold ltOf at *
    exact decide_eq_true (cmpK_trans (of_decide_eq_true h1) (of_decide_eq_true h2))
  · unfold ltOf at *
    have h1' := of_decide_eq_false h1
    have h2' := of_decide_eq_false h2
    refine decide_eq_false fun h => ?_
    rcases cmpK_val x y with e | e | e
    · omega
    · rw [cmpK_zero e] at h; exact h2' h
    · rcases cmpK_val y z with f | f | f
      · omega
      · rw [← cmpK_zero f] at h; exact h1' h
      · have k1 : cmpK y x < 0 := by rw [cmpK_neg]; omega
        have k2 : cmpK z y < 0 := by rw [cmpK_neg]; omega
        have := cmpK_trans k2 k1
        rw [cmpK_neg] at this; omega

theorem holdsK_of {w : World} {g : Nat} {ks : List Key} (hc : ∀ j, j < ks.length → w.cell? ⟨g, j * 2, none⟩ = some (.string (ks[j]?.getD nk).1) ∧ w.cell? ⟨g, j * 2 + 1, none⟩ = some (.string (ks[j]?.getD nk).2)) (hf : ∀ j, w.frozen? ⟨g, j, none⟩ = false) : HoldsK encK 2 w g 0 ks.toArray := by
  intro j hj
  rw [size_flatK] at hj
  rw [get_flatK _ _ _ _ hj, Nat.zero_add]
  refine ⟨?_, hf j⟩
  have hj2 : j / 2 < ks.length := by simp at hj; omega
  have e : (ks.toArray[j / 2]!) = ks[j / 2]?.getD nk := by
    simp [hj2]
  rw [e]
  have h := hc (j / 2) hj2
  generalize ks[j / 2]?.getD nk = p at h
  rcases Nat.mod_two_eq_zero_or_one j with m | m
  · have : j / 2 * 2 = j := by omega
    rw [this] at h
    rw [h.1, m]; rfl
  · have : j / 2 * 2 + 1 = j := by omega
    rw [this] at h
    rw [h.2, m]; rfl

theorem grownBy_sortedK {w : World} {g n : Nat} {os : Array Obj} (d : Array Key) : w.grownBy (sortWorldK encK 2 w g 0 n d os) (some g) := by
  unfold sortWorldK putRowK
  refine ⟨rfl, rfl, rfl, by simp, fun k hk hne => ?_⟩
  rw [heap_grow_old _ _ (by simpa using hk)]
  have : g ≠ k := fun e => hne (by rw [e])
  simp [putRow, mapBlock, Sort.ahead, Array.getElem?_modify, this]

theorem krow_sortedK {w : World} {g n : Nat} {os : Array Obj} (d d' : Array Key) (hH : HoldsK encK 2 w g 0 d) (hb : g < w.heap.size) (hs : d'.size = d.size) : KRow (sortWorldK encK 2 w g 0 n d' os) (some ⟨g, 0, none⟩) d'.toList := by
  have h := holdsK_sortWorldK_c encK 2 w g 0 d d' n os hH hb hs
  refine .inr ⟨g, 0, rfl, Nat.lt_of_lt_of_le hb (size_sortWorldK_c encK 2 w g 0 n d' os), fun j hj => ?_⟩
  have hj' : j < d'.size := by simpa using hj
  have e : d'[j]! = d'.toList[j]?.getD nk := by simp [hj']
  have h0 := (h.cell hj' (c := 0) (by omega))
  have h1 := (h.cell hj' (c := 1) (by omega))
  rw [e] at h0 h1
  generalize d'.toList[j]?.getD nk = p at h0 h1
  exact ⟨h0.1, h1.1⟩

theorem asc_of_sorted {ks : List Key} (hn : ks.Nodup) {d' : Array Key} (hp : PermIn 0 ks.toArray.size ks.toArray d') (hs : SortedIn (ltOf cmpK) 0 ks.toArray.size d') : Asc d'.toList ∧ d'.toList.Perm ks := by
  obtain ⟨h1, _, h3⟩ := hp
  have hperm : d'.toList.Perm ks := by
    have e1 : d'.extract 0 ks.toArray.size = d' := by rw [← h1]; simp
    have e2 : ks.toArray.extract 0 ks.toArray.size = ks.toArray := by simp
    rw [e1, e2] at h3
    exact h3
  refine ⟨?_, hperm⟩
  have hnd : d'.toList.Nodup := hperm.nodup_iff.2 hn
  refine List.pairwise_iff_getElem.2 fun i j hi hj hij => ?_
  have hi' : i < d'.size := by simpa using hi
  have hj' : j < d'.size := by simpa using hj
  have h := hs i j (Nat.zero_le _) hij (by rw [← h1]; exact hj')
  unfold ltOf at h
  have h' := of_decide_eq_false h
  rw [getElem!_pos d' i hi', getElem!_pos d' j hj'] at h'
  rw [Array.getElem_toList, Array.getElem_toList]
  rcases cmpK_val d'[i] d'[j] with e | e | e
  · omega
  · exfalso
    have := cmpK_zero e
    have := List.pairwise_iff_getElem.1 (List.nodup_iff_pairwise_ne.1 hnd) i j hi hj hij
    simp at this
    exact this (cmpK_zero e)
  · rw [cmpK_neg] at h'; omega

set_option maxHeartbeats 1000000 in
/-- slices.SortFunc of distinct keys that lie at g. -/
theorem sortKeys_any (g cap : Nat) (ks : List Key) (w : World) (hn : ks.Nodup) (hb : g < w.heap.size) (hl : ks.length ≤ 1048577) (hc : ∀ j, j < ks.length → w.cell? ⟨g, j * 2, none⟩ = some (.string (ks[j]?.getD nk).1) ∧ w.cell? ⟨g, j * 2 + 1, none⟩ = some (.string (ks[j]?.getD nk).2)) (hf : ∀ j, w.frozen? ⟨g, j, none⟩ = false) :
    Calls Try.prog 62 #[.slice (some ⟨g, 0, none⟩) ks.length cap, .func (.func 63) #[] #[]] w fun e w' => ∃ ks', e = .returned (.tuple #[]) ∧ Asc ks' ∧ ks'.Perm ks ∧ KRow w' (some ⟨g, 0, none⟩) ks' ∧ w.grownBy w' (some g) := by
  have hH := holdsK_of hc hf
  have eg : ∀ args w, (callFunc 63 args).run Try.prog w = .ok (.enter 63 args) w := enters_of Try.func63 (by kernel_rfl) rfl
  have hcon := AnyQ.slices_SortFunc Try.sortKey 2 Try.isAgg103 Try.sizeOf103 encK (fun _ => rfl) (fun x v hv => by simp [encK] at hv; rcases hv with rfl | rfl <;> rfl) cmpK swoK 63 #[] g 0 cap ks.toArray w eg (cmpLays g 0 ks.toArray.size w) hH hb (by simp; omega)
  change Calls Try.prog 62 _ _ _ at hcon
  rw [List.size_toArray] at hcon
  refine hcon.mono ?_
  rintro e w' ⟨rfl, d', n, os, hp, hs, rfl⟩
  rw [← List.size_toArray] at hp hs
  obtain ⟨h1, h2⟩ := asc_of_sorted hn hp hs
  exact ⟨d'.toList, rfl, h1, h2, krow_sortedK _ _ hH hb hp.1, grownBy_sortedK _⟩

set_option maxRecDepth 100000 in
set_option maxHeartbeats 1000000 in
/-- slices.SortFunc of nil. -/
theorem sortKeys_nil (w : World) :
    Calls Try.prog 62 #[.slice none 0 0, .func (.func 63) #[] #[]] w fun e w' => e = .returned (.tuple #[]) ∧ w = w' := by
  have hl : ∀ W, Calls Try.prog 77 #[.int .u64 (0 : Int)] W fun e w' => e = .returned (.int .i64 0) ∧ w' = W := fun W => by
    have h := Any.bits_Len (SlLaysF0.n15.bits (P := Try.prog) (ρ := Try.sortKey_ren) { Try.sortKey with }) 0 W (by omega) (by omega)
    exact h
  go_enter Try.func62, Try.ntmps62
  go_wp2_with (first | (go_at_call 77; refine (hl _).mono ?_; rintro e w' ⟨rfl, rfl⟩) | go_in)
  go_wp2
  refine wp_loop_rounds 1 ?_
  rw [rounds_succ]
  go_wp2
  refine wp_loop_rounds 1 ?_
  rw [rounds_succ]
  go_wp2
  go_end0
  exact ⟨rfl, rfl⟩

end Go.Proofs.Qxb6608833a
