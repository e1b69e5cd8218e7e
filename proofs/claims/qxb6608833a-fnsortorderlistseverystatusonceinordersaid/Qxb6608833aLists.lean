import Derived.Test.Qxb6608833aPlaces
import Derived.Test.Qxb6608833aLBytes
import Derived.Test.Qxb6608833aStatus
namespace Go.Proofs.Qxb6608833a
open Go.RowKit

/-- The distinct keys, put in one by one. -/
def insAll (ks : List Key) : List Key := ks.foldl insK []
theorem insAll_snoc (ks : List Key) (k : Nat) (hk : k < ks.length) : insAll (ks.take (k + 1)) = insK (insAll (ks.take k)) (ks[k]?.getD nk) := by
  unfold insAll
  rw [List.take_succ_eq_append_getElem hk, List.foldl_append, List.getElem?_eq_getElem hk]
  rfl
theorem foldl_said (ks : List Key) : ∀ acc : List Key, Asc acc → Asc (ks.foldl insK acc) ∧ ∀ x, x ∈ ks.foldl insK acc ↔ x ∈ acc ∨ x ∈ ks := by
  induction ks with
  | nil => intro acc h; exact ⟨h, fun x => by simp⟩
  | cons a l ih =>
    intro acc h
    obtain ⟨h1, h2⟩ := insK_said acc a h
    obtain ⟨h3, h4⟩ := ih _ h1
    refine ⟨h3, fun x => ?_⟩
    simp only [List.foldl_cons]
    rw [h4, h2, List.mem_cons]
    constructor
    · rintro ((h | h) | h)
      · exact .inr (.inl h)
      · exact .inl h
      · exact .inr (.inr h)
    · rintro (h | h | h)
      · exact .inl (.inr h)
      · exact .inl (.inl h)
      · exact .inr h
theorem insAll_said (ks : List Key) : Asc (insAll ks) ∧ ∀ x, x ∈ insAll ks ↔ x ∈ ks := by
  obtain ⟨h1, h2⟩ := foldl_said ks [] List.Pairwise.nil
  exact ⟨h1, fun x => by rw [insAll, h2]; simp⟩
theorem insAll_sz {ks : List Key} (h : Sz ks) : Sz (insAll ks) := fun p hp => h p (((insAll_said ks).2 p).1 hp)

theorem grownBy_drew {a b : World} {row : Option Nat} (h : a.grownBy b row) : a.grownBy b.drew row := ⟨h.os, h.tape, h.output, h.size, h.block⟩
theorem drew_grownBy {a b : World} {row : Option Nat} (h : a.drew.grownBy b row) : a.grownBy b row := ⟨h.os, h.tape, h.output, h.size, h.block⟩

set_option maxRecDepth 100000 in
set_option maxHeartbeats 2000000 in
theorem lists_main (a : Option Addr) (cap : Nat) (ks : List Key) (a' : Option Addr) (cap' : Nat) (ts : List Key) (w : World) (hl : ks.length ≤ 9223372036854775807) (hs : Sz ks) (hl' : ts.length ≤ 9223372036854775807) (hs' : Sz ts) (hR : KRow w a ks) (hR' : KRow w a' ts) :
    Calls Try.prog 5 #[.slice a ks.length cap, .slice a' ts.length cap'] w fun e w' => e = .returned (.bool true) ∧ Below w.heap.size w w' := by
  obtain ⟨i0, hi, hz0, hz1, hz2⟩ := info_parts Try.info47
  go_enter Try.func5, Try.ntmps5
  go_wp2_with fail
  refine (zzBytesL_any a cap ks a' cap' ts w hl hs hl' hs' hR hR').mono ?_
  rintro e w' ⟨rfl | ⟨rfl, n0, hsm, n0', hsm'⟩, rfl⟩
  · go_wp2
    go_ret
    exact ⟨rfl, Below.refl _ _⟩
  by_cases n1 : ks.length ≤ 4096
  case neg =>
    have d1 : decide ((4096 : Int) < (ks.length : Int)) = true := decide_eq_true (by omega)
    go_wp2; go_ret; exact ⟨rfl, Below.refl _ _⟩
  have d1 : decide ((4096 : Int) < (ks.length : Int)) = false := decide_eq_false (by omega)
  by_cases n1' : ts.length ≤ 4096
  case neg =>
    have d2 : decide ((4096 : Int) < (ts.length : Int)) = true := decide_eq_true (by omega)
    go_wp2; go_ret; exact ⟨rfl, Below.refl _ _⟩
  have d2 : decide ((4096 : Int) < (ts.length : Int)) = false := decide_eq_false (by omega)
  go_wp2_with fail
  refine (keysBytes_any a cap ks 1048576 w n0 hsm (by omega) (by omega) hR).mono ?_
  rintro e w' ⟨used, u0, u1, rfl, rfl⟩
  by_cases c1 : used ≤ 1048576
  case neg => go_wp2; go_ret; exact ⟨rfl, Below.refl _ _⟩
  go_wp2_with fail
  refine (keysBytes_any a' cap' ts (1048576 - used) w n0' hsm' (by omega) (by omega) hR').mono ?_
  rintro e w' ⟨used', v0, v1, rfl, rfl⟩
  by_cases c2 : used' ≤ 1048576 - used
  case neg => go_wp2; go_ret; exact ⟨rfl, Below.refl _ _⟩
  go_wp2_with fail
  refine (ascending_any a' cap' ts w (by omega) hs' hR').mono ?_
  rintro e w1 ⟨rfl, hb1⟩
  by_cases hasc : Asc ts
  case neg => rw [ascB_no hasc]; go_wp2; go_ret; exact ⟨rfl, hb1⟩
  rw [ascB_yes hasc]
  go_wp2_with fail
  refine (buildStatuses_any a cap ks w1 (by omega) hs (hR.below hb1)).mono ?_
  rintro e w2 ⟨D, rfl, hM2, hmk, hb2⟩
  have hB2 : Below w.heap.size w w2 := hb1.trans (hb2.mono hb1.size)
  go_wp2_with fail
  refine (buildOrder_any a' cap' ts w2 (by omega) (hR'.below hB2)).mono ?_
  rintro e w3 ⟨xs3, rfl, hown3, hkv3, hb3⟩
  have hM3 := ownsMap_below hM2 hb3
  go_wp2_with fail
  refine (newStore_any w1.heap.size (some ⟨w2.heap.size, 0, none⟩) ts.length ts.length false w3).mono ?_
  rintro e w4 ⟨rfl, hS4, hb4⟩
  have hM4 := ownsMap_below hM3 hb4
  have hown4 := own_below hown3 hb4
  have hB4 : Below w.heap.size w w4 := (hB2.trans (hb3.mono hB2.size)).trans (hb4.mono (Nat.le_trans hB2.size hb3.size))
  go_wp2_with fail
  refine (zzSort_any (w3.heap.size + 1) w1.heap.size w3.heap.size (some ⟨w2.heap.size, 0, none⟩) ts.length ts.length ks.length w2.heap.size D ks xs3 w4 hS4 hown4 hM4 hmk (by omega) hs).mono ?_
  rintro e w5 ⟨ks1, a1, cap1, rfl, hasc1, hmem1, hlen1, hS5, hkr5, hM5, hk5⟩
  have hB5 : Below w.heap.size w w5 := hB4.trans (hk5.to (B := w.heap.size) hB4.size (by
    have q1 := hB2.size
    have q2 := hb3.size
    rintro k (rfl | e)
    · omega
    · cases e; exact q1))
  have hs1 : Sz ks1 := fun p hp => hs p ((hmem1 p).1 hp)
  go_wp2_with fail
  refine (order_any (w3.heap.size + 1) 0 0 w1.heap.size w3.heap.size a1 ks1.length cap1 true w5 hS5).mono ?_
  rintro e w' ⟨rfl, rfl⟩
  go_wp2_with fail
  refine (readOrder_any a1 cap1 ks1 w5 (by omega) hkr5).mono ?_
  rintro e w6 ⟨xs6, rfl, hown6, hkv6, hb6⟩
  have hG6 : KRow w6 (some ⟨w5.heap.size, 0, none⟩) ks1 := KV.row hkv6 hown6
  have hS6 := hS5.below hb6
  have hM6 := ownsMap_below hM5 hb6
  have hB6 : Below w.heap.size w w6 := hB5.trans (hb6.mono hB5.size)
  have hw3 : w.heap.size ≤ w3.heap.size := Nat.le_trans hB2.size hb3.size
  have hlt6 : w5.heap.size < w6.heap.size := (hown6.lt _ rfl).2
  have hSlt5 : w3.heap.size + 1 < w5.heap.size := hS5.lt
  have HA1 : Hid (Asc ks1) := hasc1
  have HMm : Hid (∀ p, p ∈ ks1 ↔ p ∈ ks) := hmem1
  have HR : Hid (KRow w a ks) := hR
  have Hmk : Hid (MK D ks) := hmk
  clear hS4 hM2 hM3 hM4 hM5 hown3 hown4 hkv3 hb2 hb3 hb4 hB2 hB4 hS5 hkr5 hk5 hB5 hown6 hkv6 hb6 hasc1 hmem1 hR hR' hb1 hmk
  go_wp2_with (first | (at_make; refine wpList_make_own _ rfl _ _ 32 rfl 0 47 i0 (.agg #[.string ⟨#[]⟩, .string ⟨#[]⟩]) 2 Try.underlying32 hi hz0 hz1 _ _ _ 0 rfl rfl (by omega) (by rw [hz2]; omega) (by unfold maxLen; omega) (Nat.zero_le _) (fun w7 hown7 hgrow7 => Stop.go ?_)))
  unfold Stop
  have HF7 : Hid (Below w6.heap.size w6 w7) := (Below.refl _ _).grown hgrow7 (Nat.le_refl _) (fun j e => by cases e)
  have hlt7 : w6.heap.size < w7.heap.size := (hown7.lt _ rfl).2
  clear hown7 hgrow7
  go_wp2
  go_loopw [8, 9] (fun v i wr => ∃ (k g cp : Nat), k ≤ ks.length ∧ i = .int .i64 k ∧ v = .slice (some ⟨g, 0, none⟩) (insAll (ks.take k)).length cp ∧ (insAll (ks.take k)).length ≤ cp ∧ (insAll (ks.take k)).length ≤ k ∧ g < wr.heap.size ∧ KAt wr g 0 (insAll (ks.take k)) ∧ Below w6.heap.size w6 wr) (fun _ i _ => ks.length - (intOf i).toNat)
  case atStart => exact ⟨0, w6.heap.size, 0, Nat.zero_le _, rfl, rfl, Nat.zero_le _, Nat.zero_le _, hlt7, fun j u hu => by simp [insAll, kvl] at hu, HF7.out⟩
  case round =>
    obtain ⟨k, g, cp, hk, rfl, rfl, hcp, hlk, hg, hK, hnx⟩ := hrel
    by_cases hlt : k < ks.length
    · have hRw : KRow wr a ks := HR.out.below (hB6.trans (hnx.mono hB6.size))
      rcases hRw with rfl | ⟨b, off, rfl, hb, hc⟩
      · simp at hlt
      have x0 := (hc k hlt).1
      have x1 := (hc k hlt).2
      have s0 := hs.at k hlt
      have i0' : (0 : Int) ≤ (k : Int) := by omega
      have i1' : (k : Int) < (ks.length : Int) := by omega
      have hst := insAll_snoc ks k hlt
      have hszL : Sz (insAll (ks.take k)) := insAll_sz (fun p hp => hs p (List.mem_of_mem_take hp))
      have HST : Hid (insAll (ks.take (k + 1)) = insK (insAll (ks.take k)) (ks[k]?.getD nk)) := hst
      clear hst hc
      generalize ks[k]?.getD nk = q at *
      go_wp2_with fail
      refine (insertKey_any g 0 cp (insAll (ks.take k)) q wr (by omega) hcp hszL s0.1 s0.2 hg hK).mono ?_
      rintro e w8 ⟨g8, rfl, hil, hgl, hglt, hK8, hb8⟩
      rw [← HST.out] at hil hK8 ⊢
      have R1 : Below w6.heap.size w6 w8 := hnx.trans (hb8.mono hnx.size)
      go_wp2
      go_roundw
      case rel => exact ⟨k + 1, g8, _, by omega, by go_num, rfl, by omega, by omega, hglt, hK8, R1⟩
      case measure => simp [intOf]; omega
    · obtain rfl : k = ks.length := by omega
      rw [List.take_length] at *
      have heq : ks1 = insAll ks := Asc.unique HA1.out (insAll_said ks).1 (fun p => by rw [HMm.out, (insAll_said ks).2])
      rw [← heq] at hcp hlk hK ⊢
      clear heq
      have hSr := hS6.below hnx
      have hMr := ownsMap_below hM6 hnx
      have hGr := hG6.below hnx
      have hBr : Below w.heap.size w wr := hB6.trans (hnx.mono hB6.size)
      have hWr := hK.krow hg
      have hsk := sameKeys_any (some ⟨w5.heap.size, 0, none⟩) (some ⟨g, 0, none⟩) ks1.length cp ks1 wr (by omega) hGr hWr
      have hneM0 := store_ne_map hSr hMr
      go_wp2_with fail
      refine (sorted_any _ _ _ _ _ _ _ wr hSr).mono ?_
      rintro e w' ⟨rfl, rfl⟩
      go_wp2_with fail
      refine hsk.mono ?_
      rintro e w9 ⟨rfl, hd9⟩
      have L1 := hSr.below (hd9.below _)
      have L2 := ownsMap_below hMr (hd9.below _)
      have L3 := hGr.below (hd9.below _)
      have L4 := hBr.trans (hd9.below _)
      have hlt9 : w5.heap.size < w9.heap.size := Nat.lt_of_lt_of_le hlt6 (Nat.le_trans hnx.size (hd9.below 0).size)
      clear hsk hS6 hM6 hG6 hK hnx hSr hMr hGr hBr hWr hd9 HF7
      go_wp2
      go_loopw [10] (fun i wr => ∃ k : Nat, k ≤ ks1.length ∧ i = .int .i64 k ∧ StoreAt wr (w3.heap.size + 1) 0 0 w1.heap.size w3.heap.size (.slice a1 ks1.length cap1) true ∧ wr.ownsMap Try.prog 103 RS w1.heap.size ks.length D ∧ KRow wr (some ⟨w5.heap.size, 0, none⟩) ks1 ∧ Below w.heap.size w wr) (fun i _ => ks1.length - (intOf i).toNat)
      case atStart => exact ⟨0, Nat.zero_le _, rfl, L1, L2, L3, L4⟩
      case round =>
        obtain ⟨k, hkk, rfl, hSr, hMr, hGr, hBr⟩ := hrel
        clear L1 L2 L3 L4
        by_cases hltk : k < ks1.length
        · have hkat := hGr.kat.at k hltk
          have x0 : wr.cell? ⟨w5.heap.size, k * 2, none⟩ = some (.string (ks1[k]?.getD nk).1) := by have := hkat.1; rwa [Nat.zero_add] at this
          have x1 : wr.cell? ⟨w5.heap.size, k * 2 + 1, none⟩ = some (.string (ks1[k]?.getD nk).2) := by have := hkat.2; rwa [Nat.zero_add] at this
          have hbr : w5.heap.size < wr.heap.size := World.block_lt_of_cell? wr ⟨w5.heap.size, k * 2, none⟩ x0
          have hqm : ks1[k]?.getD nk ∈ ks := (HMm.out _).1 (by rw [List.getElem?_eq_getElem hltk]; exact List.getElem_mem _)
          have hsq := hs _ hqm
          have HQ0 : Hid (∃ q, q = ks1[k]?.getD nk) := ⟨_, rfl⟩
          obtain ⟨q, hq⟩ := HQ0.out
          rw [← hq] at x0 x1 hqm hsq
          have HQ : Hid (q = ks1[k]?.getD nk) := hq
          clear hq HQ0 hkat
          have hq1 : q.1.size ≤ maxLen := by unfold maxLen; exact hsq.1
          have hq2 : q.2.size ≤ maxLen := by unfold maxLen; exact hsq.2
          have hneM := hneM0
          have HSr : Hid (StoreAt wr.drew (w3.heap.size + 1) 0 0 w1.heap.size w3.heap.size (.slice a1 ks1.length cap1) true) := hSr
          have HMr : Hid (wr.ownsMap Try.prog 103 RS w1.heap.size ks.length D) := hMr
          have HMd : Hid (wr.drew.ownsMap Try.prog 103 RS w1.heap.size ks.length D) := hMr
          have HGr : Hid (KRow wr (some ⟨w5.heap.size, 0, none⟩) ks1) := hGr
          have HBr : Hid (Below w.heap.size w wr) := hBr
          have HSa : Hid (StoreAt (wr.alloc (.cells #[.string ⟨#[]⟩, .string ⟨#[]⟩, .int .u8 0, .int .u8 0, .pointer none, .string ⟨#[]⟩, .int .u64 0, .int .i64 0, .pointer none, .int .i64 0, .int .u64 0, .int .i64 0, .pointer none, .string ⟨#[]⟩] 58)).drew (w3.heap.size + 1) 0 0 w1.heap.size w3.heap.size (.slice a1 ks1.length cap1) true) := (Kept.grown (World.grownBy_alloc wr (.cells #[.string ⟨#[]⟩, .string ⟨#[]⟩, .int .u8 0, .int .u8 0, .pointer none, .string ⟨#[]⟩, .int .u64 0, .int .i64 0, .pointer none, .int .i64 0, .int .u64 0, .int .i64 0, .pointer none, .string ⟨#[]⟩] 58) none)).store hSr (by simp)
          have HMa : Hid ((wr.alloc (.cells #[.string ⟨#[]⟩, .string ⟨#[]⟩, .int .u8 0, .int .u8 0, .pointer none, .string ⟨#[]⟩, .int .u64 0, .int .i64 0, .pointer none, .int .i64 0, .int .u64 0, .int .i64 0, .pointer none, .string ⟨#[]⟩] 58)).drew.ownsMap Try.prog 103 RS w1.heap.size ks.length D) := hMr.alloc _
          have GA : wr.grownBy (wr.alloc (.cells #[.string ⟨#[]⟩, .string ⟨#[]⟩, .int .u8 0, .int .u8 0, .pointer none, .string ⟨#[]⟩, .int .u64 0, .int .i64 0, .pointer none, .int .i64 0, .int .u64 0, .int .i64 0, .pointer none, .string ⟨#[]⟩] 58)).drew (some (w3.heap.size + 1)) := grownBy_drew ((World.grownBy_alloc wr (.cells #[.string ⟨#[]⟩, .string ⟨#[]⟩, .int .u8 0, .int .u8 0, .pointer none, .string ⟨#[]⟩, .int .u64 0, .int .i64 0, .pointer none, .int .i64 0, .int .u64 0, .int .i64 0, .pointer none, .string ⟨#[]⟩] 58) none).but _)
          have HZ1 : Hid ((wr.alloc (.cells #[.string ⟨#[]⟩, .string ⟨#[]⟩, .int .u8 0, .int .u8 0, .pointer none, .string ⟨#[]⟩, .int .u64 0, .int .i64 0, .pointer none, .int .i64 0, .int .u64 0, .int .i64 0, .pointer none, .string ⟨#[]⟩] 58)).drew.heap[wr.heap.size]? = some (.cells #[.string ⟨#[]⟩, .string ⟨#[]⟩, .int .u8 0, .int .u8 0, .pointer none, .string ⟨#[]⟩, .int .u64 0, .int .i64 0, .pointer none, .int .i64 0, .int .u64 0, .int .i64 0, .pointer none, .string ⟨#[]⟩] 58)) := heap_alloc_new wr _
          have hneT : wr.heap.size ≠ w5.heap.size := by omega
          have i0' : (0 : Int) ≤ (k : Int) := by omega
          have i1' : (k : Int) < (ks1.length : Int) := by omega
          have es1 : (!(q.1.toList == q.1.toList)) = false := by simp
          have es2 : (!(q.2.toList == q.2.toList)) = false := by simp
          clear hSr hMr hGr hBr hsq
          go_wp2
          go_region_held3 (fun w' => w'.cell? ⟨w5.heap.size, k * 2, none⟩ = some (.string q.1) ∧ w'.cell? ⟨w5.heap.size, k * 2 + 1, none⟩ = some (.string q.2)) (first | (refine ⟨?_, ?_⟩ <;> (rw [hc']; with_reducible assumption)) | (refine ⟨?_, ?_⟩ <;> (rw [q6]; with_reducible assumption)) | (refine ⟨?_, ?_⟩ <;> (simp only [World.cell?_setCell_far, ne_eq, hneT, not_false_eq_true, hc']; with_reducible assumption)) | (refine ⟨?_, ?_⟩ <;> go_simp) | go_keep) (first | (go_at_call 28; (with_reducible refine (status_any (w3.heap.size + 1) w1.heap.size w3.heap.size (.slice a1 ks1.length cap1) true ks.length D ks q (wr.alloc (.cells #[.string ⟨#[]⟩, .string ⟨#[]⟩, .int .u8 0, .int .u8 0, .pointer none, .string ⟨#[]⟩, .int .u64 0, .int .i64 0, .pointer none, .int .i64 0, .int .u64 0, .int .i64 0, .pointer none, .string ⟨#[]⟩] 58)).drew HSa.out HMa.out Hmk.out hqm hq1 hq2).mono ?_); rintro e w2 ⟨rfl, hS2, hg2⟩; have G2 : wr.grownBy w2 (some (w3.heap.size + 1)) := (GA.andThen hg2 (fun j e => .inr e)); have hc' : ∀ o, w2.cell? ⟨w5.heap.size, o, none⟩ = wr.cell? ⟨w5.heap.size, o, none⟩ := fun o => G2.cell_far ⟨w5.heap.size, o, none⟩ hbr (by simp; omega); have q6 : ∀ x o, (w2.alloc x).cell? ⟨w5.heap.size, o, none⟩ = wr.cell? ⟨w5.heap.size, o, none⟩ := fun x o => ((World.grownBy_alloc w2 x none).cell_far ⟨w5.heap.size, o, none⟩ (Nat.lt_of_lt_of_le hbr G2.size) (by simp)).trans (hc' o); have hz8 : w2.heap[wr.heap.size]? = some (.cells #[.string ⟨#[]⟩, .string ⟨#[]⟩, .int .u8 0, .int .u8 0, .pointer none, .string ⟨#[]⟩, .int .u64 0, .int .i64 0, .pointer none, .int .i64 0, .int .u64 0, .int .i64 0, .pointer none, .string ⟨#[]⟩] 58) := (hg2.block wr.heap.size (by simp) (by simp; omega)).trans HZ1.out; obtain ⟨z0, z1, z2, z3, z4, z5, z6, z7, z8, z9, z10, z11, z12, z13, f0, f1, f2, f3, f4, f5, f6, f7, f8, f9, f10, f11, f12, f13⟩ := blk14 hz8) | (go_at_call 28; (with_reducible refine (status_any (w3.heap.size + 1) w1.heap.size w3.heap.size (.slice a1 ks1.length cap1) true ks.length D ks q wr.drew HSr.out HMd.out Hmk.out hqm hq1 hq2).mono ?_); rintro e w2 ⟨rfl, hS2, hg2⟩; have G2 : wr.grownBy w2 (some (w3.heap.size + 1)) := drew_grownBy hg2; have hc' : ∀ o, w2.cell? ⟨w5.heap.size, o, none⟩ = wr.cell? ⟨w5.heap.size, o, none⟩ := fun o => G2.cell_far ⟨w5.heap.size, o, none⟩ hbr (by simp; omega); have q6 : ∀ x o, (w2.alloc x).cell? ⟨w5.heap.size, o, none⟩ = wr.cell? ⟨w5.heap.size, o, none⟩ := fun x o => ((World.grownBy_alloc w2 x none).cell_far ⟨w5.heap.size, o, none⟩ (Nat.lt_of_lt_of_le hbr G2.size) (by simp)).trans (hc' o)))
          · have FS3 : StoreAt (w2.alloc (.cells #[.string q.1, .string q.2, .int .u8 0, .int .u8 0, .pointer none, .string ⟨#[]⟩, .int .u64 0, .int .i64 0, .pointer none, .int .i64 0, .int .u64 0, .int .i64 0, .pointer none, .string ⟨#[]⟩] 58)) (w3.heap.size + 1) 0 0 w1.heap.size w3.heap.size (.slice a1 ks1.length cap1) true := (Kept.grown (World.grownBy_alloc w2 (.cells #[.string q.1, .string q.2, .int .u8 0, .int .u8 0, .pointer none, .string ⟨#[]⟩, .int .u64 0, .int .i64 0, .pointer none, .int .i64 0, .int .u64 0, .int .i64 0, .pointer none, .string ⟨#[]⟩] 58) none)).store hS2 (by simp)
            have F1 : (w2.alloc (.cells #[.string q.1, .string q.2, .int .u8 0, .int .u8 0, .pointer none, .string ⟨#[]⟩, .int .u64 0, .int .i64 0, .pointer none, .int .i64 0, .int .u64 0, .int .i64 0, .pointer none, .string ⟨#[]⟩] 58)).heap[w2.heap.size]? = some (.cells #[.string q.1, .string q.2, .int .u8 0, .int .u8 0, .pointer none, .string ⟨#[]⟩, .int .u64 0, .int .i64 0, .pointer none, .int .i64 0, .int .u64 0, .int .i64 0, .pointer none, .string ⟨#[]⟩] 58 (0, 0)) := heap_alloc_new w2 _
            have GW : wr.grownBy (w2.alloc (.cells #[.string q.1, .string q.2, .int .u8 0, .int .u8 0, .pointer none, .string ⟨#[]⟩, .int .u64 0, .int .i64 0, .pointer none, .int .i64 0, .int .u64 0, .int .i64 0, .pointer none, .string ⟨#[]⟩] 58)) (some (w3.heap.size + 1)) := G2.andThen (World.grownBy_alloc w2 (.cells #[.string q.1, .string q.2, .int .u8 0, .int .u8 0, .pointer none, .string ⟨#[]⟩, .int .u64 0, .int .i64 0, .pointer none, .int .i64 0, .int .u64 0, .int .i64 0, .pointer none, .string ⟨#[]⟩] 58) none) (fun j e => by cases e)
            have F3 : StoreAt (w2.alloc (.cells #[.string q.1, .string q.2, .int .u8 0, .int .u8 0, .pointer none, .string ⟨#[]⟩, .int .u64 0, .int .i64 0, .pointer none, .int .i64 0, .int .u64 0, .int .i64 0, .pointer none, .string ⟨#[]⟩] 58)) (w3.heap.size + 1) 0 0 w1.heap.size w3.heap.size (.slice a1 ks1.length cap1) true := FS3
            have F4 : (w2.alloc (.cells #[.string q.1, .string q.2, .int .u8 0, .int .u8 0, .pointer none, .string ⟨#[]⟩, .int .u64 0, .int .i64 0, .pointer none, .int .i64 0, .int .u64 0, .int .i64 0, .pointer none, .string ⟨#[]⟩] 58)).ownsMap Try.prog 103 RS w1.heap.size ks.length D := HMr.out.kept GW (fun e => hneM (Option.some.inj e).symm)
            have F5 : KRow (w2.alloc (.cells #[.string q.1, .string q.2, .int .u8 0, .int .u8 0, .pointer none, .string ⟨#[]⟩, .int .u64 0, .int .i64 0, .pointer none, .int .i64 0, .int .u64 0, .int .i64 0, .pointer none, .string ⟨#[]⟩] 58)) (some ⟨w5.heap.size, 0, none⟩) ks1 := (Kept.grown GW).krow (fun e => by have := Option.some.inj e; omega) HGr.out
            have F6 : Below w.heap.size w (w2.alloc (.cells #[.string q.1, .string q.2, .int .u8 0, .int .u8 0, .pointer none, .string ⟨#[]⟩, .int .u64 0, .int .i64 0, .pointer none, .int .i64 0, .int .u64 0, .int .i64 0, .pointer none, .string ⟨#[]⟩] 58)) := HBr.out.grown GW HBr.out.size (fun j e => by cases e; omega)
            have F7 := F5.kat.at k hltk
            rw [← HQ.out] at F7
            clear FS3 hS2 hg2 GW G2 hc' q6
            generalize w2.alloc (.cells #[.string q.1, .string q.2, .int .u8 0, .int .u8 0, .pointer none, .string ⟨#[]⟩, .int .u64 0, .int .i64 0, .pointer none, .int .i64 0, .int .u64 0, .int .i64 0, .pointer none, .string ⟨#[]⟩] 58) = W at *
            generalize w2.heap.size = T at *
            have HSW : Hid (StoreAt W (w3.heap.size + 1) 0 0 w1.heap.size w3.heap.size (.slice a1 ks1.length cap1) true) := F3
            have HMW : Hid (W.ownsMap Try.prog 103 RS w1.heap.size ks.length D) := F4
            have HGW : Hid (KRow W (some ⟨w5.heap.size, 0, none⟩) ks1) := F5
            have HBW : Hid (Below w.heap.size w W) := F6
            obtain ⟨c0, c1, c2, c3, c4, c5, c6, c7, c8, c9, c10, c11, c12, c13⟩ := blkS F1
            have u0' : W.cell? ⟨w5.heap.size, 0 + k * 2, none⟩ = some (.string q.1) := F7.1
            have u1' : W.cell? ⟨w5.heap.size, 0 + k * 2 + 1, none⟩ = some (.string q.2) := F7.2
            clear F1 F3 F4 F5 F6 F7 c2 c3 c4 c5 c6 c7 c8 c9 c10 c11 c12 c13
            simp only [Nat.zero_add] at u0' u1'
            go_wp2
            go_quiet (fail)
            go_wp2
            go_roundw
            case rel => exact ⟨k + 1, by omega, by go_num, HSW.out, HMW.out, HGW.out, HBW.out.trans (Dw.below ⟨_, rfl⟩ _)⟩
            case measure => simp [intOf]; omega
          · have F0 := set14 q hz8
            have FS3 : StoreAt ((((((((((((((w2.setCell ⟨wr.heap.size, 0, none⟩ (.string q.1)).setCell ⟨wr.heap.size, 1, none⟩ (.string q.2)).setCell ⟨wr.heap.size, 2, none⟩ (.int .u8 0)).setCell ⟨wr.heap.size, 3, none⟩ (.int .u8 0)).setCell ⟨wr.heap.size, 4, none⟩ (.pointer none)).setCell ⟨wr.heap.size, 5, none⟩ (.string ⟨#[]⟩)).setCell ⟨wr.heap.size, 6, none⟩ (.int .u64 0)).setCell ⟨wr.heap.size, 7, none⟩ (.int .i64 0)).setCell ⟨wr.heap.size, 8, none⟩ (.pointer none)).setCell ⟨wr.heap.size, 9, none⟩ (.int .i64 0)).setCell ⟨wr.heap.size, 10, none⟩ (.int .u64 0)).setCell ⟨wr.heap.size, 11, none⟩ (.int .i64 0)).setCell ⟨wr.heap.size, 12, none⟩ (.pointer none)).setCell ⟨wr.heap.size, 13, none⟩ (.string ⟨#[]⟩)) (w3.heap.size + 1) 0 0 w1.heap.size w3.heap.size (.slice a1 ks1.length cap1) true := (Kept.grown F0.2).store hS2 (fun e => by have := Option.some.inj e; omega)
            have F1 : ((((((((((((((w2.setCell ⟨wr.heap.size, 0, none⟩ (.string q.1)).setCell ⟨wr.heap.size, 1, none⟩ (.string q.2)).setCell ⟨wr.heap.size, 2, none⟩ (.int .u8 0)).setCell ⟨wr.heap.size, 3, none⟩ (.int .u8 0)).setCell ⟨wr.heap.size, 4, none⟩ (.pointer none)).setCell ⟨wr.heap.size, 5, none⟩ (.string ⟨#[]⟩)).setCell ⟨wr.heap.size, 6, none⟩ (.int .u64 0)).setCell ⟨wr.heap.size, 7, none⟩ (.int .i64 0)).setCell ⟨wr.heap.size, 8, none⟩ (.pointer none)).setCell ⟨wr.heap.size, 9, none⟩ (.int .i64 0)).setCell ⟨wr.heap.size, 10, none⟩ (.int .u64 0)).setCell ⟨wr.heap.size, 11, none⟩ (.int .i64 0)).setCell ⟨wr.heap.size, 12, none⟩ (.pointer none)).setCell ⟨wr.heap.size, 13, none⟩ (.string ⟨#[]⟩)).heap[wr.heap.size]? = some (.cells #[.string q.1, .string q.2, .int .u8 0, .int .u8 0, .pointer none, .string ⟨#[]⟩, .int .u64 0, .int .i64 0, .pointer none, .int .i64 0, .int .u64 0, .int .i64 0, .pointer none, .string ⟨#[]⟩] 58 (0, 0)) := F0.1
            have GW : wr.grownBy ((((((((((((((w2.setCell ⟨wr.heap.size, 0, none⟩ (.string q.1)).setCell ⟨wr.heap.size, 1, none⟩ (.string q.2)).setCell ⟨wr.heap.size, 2, none⟩ (.int .u8 0)).setCell ⟨wr.heap.size, 3, none⟩ (.int .u8 0)).setCell ⟨wr.heap.size, 4, none⟩ (.pointer none)).setCell ⟨wr.heap.size, 5, none⟩ (.string ⟨#[]⟩)).setCell ⟨wr.heap.size, 6, none⟩ (.int .u64 0)).setCell ⟨wr.heap.size, 7, none⟩ (.int .i64 0)).setCell ⟨wr.heap.size, 8, none⟩ (.pointer none)).setCell ⟨wr.heap.size, 9, none⟩ (.int .i64 0)).setCell ⟨wr.heap.size, 10, none⟩ (.int .u64 0)).setCell ⟨wr.heap.size, 11, none⟩ (.int .i64 0)).setCell ⟨wr.heap.size, 12, none⟩ (.pointer none)).setCell ⟨wr.heap.size, 13, none⟩ (.string ⟨#[]⟩)) (some (w3.heap.size + 1)) := G2.andThen F0.2 (fun j e => by cases e; exact .inl (Nat.le_refl _))
            have F3 : StoreAt ((((((((((((((w2.setCell ⟨wr.heap.size, 0, none⟩ (.string q.1)).setCell ⟨wr.heap.size, 1, none⟩ (.string q.2)).setCell ⟨wr.heap.size, 2, none⟩ (.int .u8 0)).setCell ⟨wr.heap.size, 3, none⟩ (.int .u8 0)).setCell ⟨wr.heap.size, 4, none⟩ (.pointer none)).setCell ⟨wr.heap.size, 5, none⟩ (.string ⟨#[]⟩)).setCell ⟨wr.heap.size, 6, none⟩ (.int .u64 0)).setCell ⟨wr.heap.size, 7, none⟩ (.int .i64 0)).setCell ⟨wr.heap.size, 8, none⟩ (.pointer none)).setCell ⟨wr.heap.size, 9, none⟩ (.int .i64 0)).setCell ⟨wr.heap.size, 10, none⟩ (.int .u64 0)).setCell ⟨wr.heap.size, 11, none⟩ (.int .i64 0)).setCell ⟨wr.heap.size, 12, none⟩ (.pointer none)).setCell ⟨wr.heap.size, 13, none⟩ (.string ⟨#[]⟩)) (w3.heap.size + 1) 0 0 w1.heap.size w3.heap.size (.slice a1 ks1.length cap1) true := FS3
            have F4 : ((((((((((((((w2.setCell ⟨wr.heap.size, 0, none⟩ (.string q.1)).setCell ⟨wr.heap.size, 1, none⟩ (.string q.2)).setCell ⟨wr.heap.size, 2, none⟩ (.int .u8 0)).setCell ⟨wr.heap.size, 3, none⟩ (.int .u8 0)).setCell ⟨wr.heap.size, 4, none⟩ (.pointer none)).setCell ⟨wr.heap.size, 5, none⟩ (.string ⟨#[]⟩)).setCell ⟨wr.heap.size, 6, none⟩ (.int .u64 0)).setCell ⟨wr.heap.size, 7, none⟩ (.int .i64 0)).setCell ⟨wr.heap.size, 8, none⟩ (.pointer none)).setCell ⟨wr.heap.size, 9, none⟩ (.int .i64 0)).setCell ⟨wr.heap.size, 10, none⟩ (.int .u64 0)).setCell ⟨wr.heap.size, 11, none⟩ (.int .i64 0)).setCell ⟨wr.heap.size, 12, none⟩ (.pointer none)).setCell ⟨wr.heap.size, 13, none⟩ (.string ⟨#[]⟩)).ownsMap Try.prog 103 RS w1.heap.size ks.length D := HMr.out.kept GW (fun e => hneM (Option.some.inj e).symm)
            have F5 : KRow ((((((((((((((w2.setCell ⟨wr.heap.size, 0, none⟩ (.string q.1)).setCell ⟨wr.heap.size, 1, none⟩ (.string q.2)).setCell ⟨wr.heap.size, 2, none⟩ (.int .u8 0)).setCell ⟨wr.heap.size, 3, none⟩ (.int .u8 0)).setCell ⟨wr.heap.size, 4, none⟩ (.pointer none)).setCell ⟨wr.heap.size, 5, none⟩ (.string ⟨#[]⟩)).setCell ⟨wr.heap.size, 6, none⟩ (.int .u64 0)).setCell ⟨wr.heap.size, 7, none⟩ (.int .i64 0)).setCell ⟨wr.heap.size, 8, none⟩ (.pointer none)).setCell ⟨wr.heap.size, 9, none⟩ (.int .i64 0)).setCell ⟨wr.heap.size, 10, none⟩ (.int .u64 0)).setCell ⟨wr.heap.size, 11, none⟩ (.int .i64 0)).setCell ⟨wr.heap.size, 12, none⟩ (.pointer none)).setCell ⟨wr.heap.size, 13, none⟩ (.string ⟨#[]⟩)) (some ⟨w5.heap.size, 0, none⟩) ks1 := (Kept.grown GW).krow (fun e => by have := Option.some.inj e; omega) HGr.out
            have F6 : Below w.heap.size w ((((((((((((((w2.setCell ⟨wr.heap.size, 0, none⟩ (.string q.1)).setCell ⟨wr.heap.size, 1, none⟩ (.string q.2)).setCell ⟨wr.heap.size, 2, none⟩ (.int .u8 0)).setCell ⟨wr.heap.size, 3, none⟩ (.int .u8 0)).setCell ⟨wr.heap.size, 4, none⟩ (.pointer none)).setCell ⟨wr.heap.size, 5, none⟩ (.string ⟨#[]⟩)).setCell ⟨wr.heap.size, 6, none⟩ (.int .u64 0)).setCell ⟨wr.heap.size, 7, none⟩ (.int .i64 0)).setCell ⟨wr.heap.size, 8, none⟩ (.pointer none)).setCell ⟨wr.heap.size, 9, none⟩ (.int .i64 0)).setCell ⟨wr.heap.size, 10, none⟩ (.int .u64 0)).setCell ⟨wr.heap.size, 11, none⟩ (.int .i64 0)).setCell ⟨wr.heap.size, 12, none⟩ (.pointer none)).setCell ⟨wr.heap.size, 13, none⟩ (.string ⟨#[]⟩)) := HBr.out.grown GW HBr.out.size (fun j e => by cases e; omega)
            have F7 := F5.kat.at k hltk
            rw [← HQ.out] at F7
            clear F0 FS3 hS2 hg2 GW G2 hc' q6 hz8 z0 z1 z2 z3 z4 z5 z6 z7 z8 z9 z10 z11 z12 z13 f0 f1 f2 f3 f4 f5 f6 f7 f8 f9 f10 f11 f12 f13
            generalize ((((((((((((((w2.setCell ⟨wr.heap.size, 0, none⟩ (.string q.1)).setCell ⟨wr.heap.size, 1, none⟩ (.string q.2)).setCell ⟨wr.heap.size, 2, none⟩ (.int .u8 0)).setCell ⟨wr.heap.size, 3, none⟩ (.int .u8 0)).setCell ⟨wr.heap.size, 4, none⟩ (.pointer none)).setCell ⟨wr.heap.size, 5, none⟩ (.string ⟨#[]⟩)).setCell ⟨wr.heap.size, 6, none⟩ (.int .u64 0)).setCell ⟨wr.heap.size, 7, none⟩ (.int .i64 0)).setCell ⟨wr.heap.size, 8, none⟩ (.pointer none)).setCell ⟨wr.heap.size, 9, none⟩ (.int .i64 0)).setCell ⟨wr.heap.size, 10, none⟩ (.int .u64 0)).setCell ⟨wr.heap.size, 11, none⟩ (.int .i64 0)).setCell ⟨wr.heap.size, 12, none⟩ (.pointer none)).setCell ⟨wr.heap.size, 13, none⟩ (.string ⟨#[]⟩)) = W at *
            generalize hT1 : wr.heap.size = T at *
            clear hT1
            have HSW : Hid (StoreAt W (w3.heap.size + 1) 0 0 w1.heap.size w3.heap.size (.slice a1 ks1.length cap1) true) := F3
            have HMW : Hid (W.ownsMap Try.prog 103 RS w1.heap.size ks.length D) := F4
            have HGW : Hid (KRow W (some ⟨w5.heap.size, 0, none⟩) ks1) := F5
            have HBW : Hid (Below w.heap.size w W) := F6
            obtain ⟨c0, c1, c2, c3, c4, c5, c6, c7, c8, c9, c10, c11, c12, c13⟩ := blkS F1
            have u0' : W.cell? ⟨w5.heap.size, 0 + k * 2, none⟩ = some (.string q.1) := F7.1
            have u1' : W.cell? ⟨w5.heap.size, 0 + k * 2 + 1, none⟩ = some (.string q.2) := F7.2
            clear F1 F3 F4 F5 F6 F7 c2 c3 c4 c5 c6 c7 c8 c9 c10 c11 c12 c13
            simp only [Nat.zero_add] at u0' u1'
            go_wp2
            go_quiet (fail)
            go_wp2
            go_roundw
            case rel => exact ⟨k + 1, by omega, by go_num, HSW.out, HMW.out, HGW.out, HBW.out.trans (Dw.below ⟨_, rfl⟩ _)⟩
            case measure => simp [intOf]; omega
        · obtain rfl : k = ks1.length := by omega
          go_wp2
          go_ret
          exact ⟨rfl, hBr⟩

end Go.Proofs.Qxb6608833a
