import Derived.Test.Qxb6608833aZZSort
import Derived.Test.Qxb6608833aInsW
namespace Go.Proofs.Qxb6608833a
open Go.RowKit

theorem KRow.kat {w : World} {b off : Nat} {ks : List Key} (h : KRow w (some ⟨b, off, none⟩) ks) : KAt w b off ks := by
  rcases h with rfl | ⟨b', off', e, _, hc⟩
  · intro j u hu; simp [kvl] at hu
  · cases e; exact KAt.of hc
theorem KV.kat {w : World} {base g cap : Nat} {e : TypeId} {ks : List Key} {xs : List Value} (hk : KV xs ks ks.length) (h : w.ownsRow base e 2 (.slice (some ⟨g, 0, none⟩) ks.length cap) ks.length xs) : KAt w g 0 ks := (KV.row hk h).kat
theorem StoreAt.below {w w' : World} {S : Nat} {st cnt : Int} {B u : Nat} {v : Value} {s : Bool} (h : StoreAt w S st cnt B u v s) (hb : Below w.heap.size w w') : StoreAt w' S st cnt B u v s := (hb.block S h.lt).trans h

theorem krow_add {w : World} {a : Option Addr} {ks : List Key} (h : KRow w a ks) : ∀ ad : Addr, a = some ad → ∀ j u, (kvl ks)[j]? = some u → w.cell? (ad.add j) = some u := by
  rcases h with rfl | ⟨b, off, rfl, _, hc⟩
  · intro ad _ j u hu; simp [kvl] at hu
  · exact kat_add (KAt.of hc)

set_option maxRecDepth 100000 in
set_option maxHeartbeats 4000000 in
theorem places_main (a : Option Addr) (cap : Nat) (ks : List Key) (h t : ByteArray) (w : World) (hl : ks.length ≤ 9223372036854775807) (hs : Sz ks) (hh : h.size ≤ 9223372036854775807) (ht : t.size ≤ 9223372036854775807) (hnone : a = none → ks.length = 0 ∧ cap = 0) (hR : KRow w a ks) :
    Calls Try.prog 6 #[.slice a ks.length cap, .string h, .string t] w fun e w' => e = .returned (.bool true) ∧ Below w.heap.size w w' := by
  obtain ⟨i0, hi, hz0, hz1, hz2⟩ := info_parts Try.info47
  go_enter Try.func6, Try.ntmps6
  go_wp2_with fail
  refine (zzBytesP_any a cap ks h t w hl hs hh ht hR).mono ?_
  rintro e w' ⟨rfl | ⟨rfl, n0, hsm, h1, t1⟩, rfl⟩
  · go_wp2
    go_ret
    exact ⟨rfl, Below.refl _ _⟩
  by_cases n1 : ks.length ≤ 65536
  case neg => go_wp2; go_ret; exact ⟨rfl, Below.refl _ _⟩
  have d1 : decide ((65536 : Int) < (ks.length : Int)) = false := decide_eq_false (by omega)
  go_wp2_with fail
  refine (keysBytes_any a cap ks 1048576 w n0 hsm (by omega) (by omega) hR).mono ?_
  rintro e w' ⟨used, u0, u1, rfl, rfl⟩
  by_cases c1 : used ≤ 1048576
  case neg => go_wp2; go_ret; exact ⟨rfl, Below.refl _ _⟩
  by_cases c2 : (h.size : Int) ≤ 1048576 - used
  case neg => go_wp2; go_ret; exact ⟨rfl, Below.refl _ _⟩
  by_cases c3 : (t.size : Int) ≤ 1048576 - used - h.size
  case neg => go_wp2; go_ret; exact ⟨rfl, Below.refl _ _⟩
  go_wp2_with fail
  refine (buildStatuses_any a cap ks w (by omega) hs hR).mono ?_
  rintro e w1 ⟨D1, rfl, hM1, hmk1, hb1⟩
  go_wp2_with fail
  refine (newStore_any w.heap.size none 0 0 false w1).mono ?_
  rintro e w2 ⟨rfl, hS2, hb2⟩
  have hM2 : w2.ownsMap Try.prog 103 RS w.heap.size ks.length D1 := ownsMap_below hM1 hb2
  go_wp2_with fail
  refine (zzSort_any (w1.heap.size + 1) w.heap.size w1.heap.size none 0 0 ks.length 0 D1 ks [] w2 hS2 (World.ownsRow_nil _ _ _ _) hM2 hmk1 (by omega) hs).mono ?_
  rintro e w3 ⟨ks1, a1, cap1, rfl, hasc1, hmem1, hlen1, hS3, hkr3, hM3, hk3⟩
  have hB3 : Below w.heap.size w w3 := by
    refine ((hb1.trans (hb2.mono hb1.size)).trans ((hk3.to (B := w.heap.size) ?_ ?_)))
    · exact Nat.le_trans hb1.size hb2.size
    · rintro k (rfl | e)
      · have := hb1.size; omega
      · cases e
  have hs1 : Sz ks1 := fun p hp => hs p ((hmem1 p).1 hp)
  go_wp2_with fail
  refine (order_any (w1.heap.size + 1) 0 0 w.heap.size w1.heap.size a1 ks1.length cap1 true w3 hS3).mono ?_
  rintro e w' ⟨rfl, rfl⟩
  go_wp2_with fail
  refine (readOrder_any a1 cap1 ks1 w3 (by omega) hkr3).mono ?_
  rintro e w4 ⟨xs4, rfl, hown4, hkv4, hb4⟩
  have hrow4 : KRow w4 (some ⟨w3.heap.size, 0, none⟩) ks1 := KV.row hkv4 hown4
  have HS5 : Hid (StoreAt (w4.alloc (.cells #[.string h, .string t] 47)) (w1.heap.size + 1) 0 0 w.heap.size w1.heap.size (.slice a1 ks1.length cap1) true) := (hS3.below hb4).below ((Below.refl _ _).alloc (Nat.le_refl _) _)
  have HK5 : Hid (KRow (w4.alloc (.cells #[.string h, .string t] 47)) (some ⟨w3.heap.size, 0, none⟩) ks1) := hrow4.below ((Below.refl _ _).alloc (Nat.le_refl _) _)
  have e0 : (w4.alloc (.cells #[.string h, .string t] 47)).cell? ⟨w4.heap.size, 0, none⟩ = some (.string h) := cell_of_row _ _ 0 _ 47 (0, 0) (heap_alloc_new w4 _)
  have e1 : (w4.alloc (.cells #[.string h, .string t] 47)).cell? ⟨w4.heap.size, 1, none⟩ = some (.string t) := cell_of_row _ _ 1 _ 47 (0, 0) (heap_alloc_new w4 _)
  have hB4 : Below w.heap.size w w4 := hB3.trans (hb4.mono hB3.size)
  have HB5 : Hid (Below w.heap.size w (w4.alloc (.cells #[.string h, .string t] 47))) := hB4.alloc hB4.size _
  have hz5 : (w4.alloc (.cells #[.string h, .string t] 47)).heap.size = w4.heap.size + 1 := by simp
  have h34 : w3.heap.size < w4.heap.size := (hown4.lt _ rfl).2
  have hHb : Hid (Below w.heap.size w w3) := hB3
  have HMm : Hid (∀ p, p ∈ ks1 ↔ p ∈ ks) := hmem1
  have HA1 : Hid (Asc ks1) := hasc1
  have HR : Hid (KRow w a ks) := hR
  clear hS2 hM1 hb2 hM2 hS3 hkr3 hM3 hk3 hB3 hown4 hkv4 hrow4 hB4 hmem1 hasc1 hR hmk1 hb1 hb4
  go_wp2_with (first | (at_make; refine wpList_make_own _ rfl _ _ 32 rfl 0 47 i0 (.agg #[.string ⟨#[]⟩, .string ⟨#[]⟩]) 2 Try.underlying32 hi hz0 hz1 _ _ _ (ks.length + 1) rfl rfl (by omega) (by rw [hz2]; omega) (by unfold maxLen; omega) (Nat.zero_le _) (fun w6 hown6 hgrow6 => Stop.go ?_)))
  unfold Stop
  rw [hz5] at hown6
  obtain ⟨w5, hw5⟩ : ∃ w5, w5 = w4.alloc (.cells #[.string h, .string t] 47) := ⟨_, rfl⟩
  rw [← hw5] at hgrow6 HS5 HK5 e0 e1 HB5 hz5
  clear hw5
  have hz5' : w5.heap.size ≤ w4.heap.size + 1 := by omega
  have h45 : w4.heap.size < w5.heap.size := by omega
  clear hz5
  have HF6 : Hid (Below w5.heap.size w5 w6) := (Below.refl _ _).grown hgrow6 (Nat.le_refl _) (fun j e => by cases e)
  have HR6 : Hid (KRow w6 a ks) := (HR.out.below (HB5.out.trans (HF6.out.mono HB5.out.size)))
  clear hgrow6
  go_wp2_with (first | (at_builtin; refine wpList_append_fits_any _ rfl _ _ 32 rfl 0 47 i0 2 Try.underlying32 hi hz1 (w4.heap.size + 1) 0 (ks.length + 1) [] rfl hown6 a ks.length cap (kvl ks) rfl (kvl_length ks) hnone (krow_add HR6.out) (kvl_one _) (by omega) (fun w7 hown7 hgrow7 => Stop.go ?_)))
  unfold Stop
  simp only [Nat.zero_add, List.nil_append] at hown7 ⊢
  have HF7 : Hid (Below w5.heap.size w5 w7) := HF6.out.grown hgrow7 HF6.out.size (fun j e => by cases e; exact hz5')
  have y0 : w7.cell? ⟨w4.heap.size, 0, none⟩ = some (.string h) := (HF7.out.cell (p := ⟨w4.heap.size, 0, none⟩) h45).trans e0
  have y1 : w7.cell? ⟨w4.heap.size, 1, none⟩ = some (.string t) := (HF7.out.cell (p := ⟨w4.heap.size, 1, none⟩) h45).trans e1
  have HO7 : Hid ((w7.alloc (.cells #[.string h, .string t] 47)).ownsRow 0 47 2 (.slice (some ⟨w4.heap.size + 1, 0, none⟩) ks.length (ks.length + 1)) ks.length (kvl ks)) := hown7.alloc _
  have HF7a : Hid (Below w5.heap.size w5 (w7.alloc (.cells #[.string h, .string t] 47))) := HF7.out.alloc HF7.out.size _
  have Hnw : Hid (∀ j u, [Value.string h, Value.string t][j]? = some u → (w7.alloc (.cells #[.string h, .string t] 47)).cell? ((⟨w7.heap.size, 0, none⟩ : Addr).add j) = some u) := fun j u hu => World.news_of_block (heap_alloc_new w7 (.cells #[.string h, .string t] 47)) j u hu
  clear hown6 hown7 hgrow7
  go_wp2_with (first | (at_builtin; refine wpList_append_fits _ rfl _ _ 32 rfl 0 47 i0 2 Try.underlying32 hi hz1 (w4.heap.size + 1) ks.length (ks.length + 1) (kvl ks) rfl HO7.out ⟨w7.heap.size, 0, none⟩ 1 1 [.string h, .string t] rfl rfl Hnw.out (by intro q hq; simp at hq; rcases hq with rfl | rfl <;> rfl) (by omega) (fun w8 hown8 hgrow8 => Stop.go ?_)))
  unfold Stop
  have HF8 : Hid (Below w5.heap.size w5 w8) := HF7a.out.grown hgrow8 HF7a.out.size (fun j e => by cases e; exact hz5')
  have hK8 : KAt w8 (w4.heap.size + 1) 0 (ks ++ [(h, t)]) := KAt.own (cap := ks.length + 1) (n := ks.length + 1) (by rw [kvl_snoc]; exact hown8)
  have hlt8 : w4.heap.size + 1 < w8.heap.size := (hown8.lt _ rfl).2
  have hsg : Sz (ks ++ [(h, t)]) := fun p hp => by
    rcases List.mem_append.1 hp with hp | hp
    · exact hs p hp
    · simp at hp; subst hp; exact ⟨hh, ht⟩
  have hbs := buildStatuses_any (some ⟨w4.heap.size + 1, 0, none⟩) (ks.length + 1) (ks ++ [(h, t)]) w8 (by simp; omega) hsg (hK8.krow hlt8)
  rw [List.length_append, List.length_singleton] at hbs
  have HS8 : Hid (KRow w8 (some ⟨w3.heap.size, 0, none⟩) ks1) := HK5.out.below HF8.out
  clear hown8 hgrow8 hK8
  go_wp2_with fail
  refine hbs.mono ?_
  rintro e w9 ⟨D9, rfl, hM9, hmk9, hb9⟩
  have hr9 : KRow w9 (some ⟨w3.heap.size, 0, none⟩) ks1 := HS8.out.below hb9
  go_wp2_with fail
  refine (buildOrder_any (some ⟨w3.heap.size, 0, none⟩) ks1.length ks1 w9 (by omega) hr9).mono ?_
  rintro e w10 ⟨xs10, rfl, hown10, hkv10, hb10⟩
  have hM10 := ownsMap_below hM9 hb10
  go_wp2_with fail
  refine (newStore_any w8.heap.size (some ⟨w9.heap.size, 0, none⟩) ks1.length ks1.length false w10).mono ?_
  rintro e w11 ⟨rfl, hS11, hb11⟩
  have hM11 := ownsMap_below hM10 hb11
  have hown11 := own_below hown10 hb11
  have hF11 : Below w5.heap.size w5 w11 := ((HF8.out.trans (hb9.mono HF8.out.size)).trans (hb10.mono (Nat.le_trans HF8.out.size hb9.size))).trans (hb11.mono (Nat.le_trans (Nat.le_trans HF8.out.size hb9.size) hb10.size))
  go_wp2_with fail
  refine (zzSort_any (w10.heap.size + 1) w8.heap.size w10.heap.size (some ⟨w9.heap.size, 0, none⟩) ks1.length ks1.length (ks.length + 1) w9.heap.size D9 (ks ++ [(h, t)]) xs10 w11 hS11 hown11 hM11 hmk9 (by omega) hsg).mono ?_
  rintro e w12 ⟨ks2, a2, cap2, rfl, hasc2, hmem2, hlen2, hS12, hkr12, hM12, hk12⟩
  have hF12 : Below w5.heap.size w5 w12 := hF11.trans (hk12.to (B := w5.heap.size) hF11.size (by
    have q1 := hb9.size
    have q2 := hb10.size
    have q3 := HF8.out.size
    rintro k (rfl | e)
    · omega
    · cases e; show w5.heap.size ≤ w9.heap.size; omega))
  have h1l : Asc (insK ks1 (h, t)) ∧ ∀ x, x ∈ insK ks1 (h, t) ↔ x = (h, t) ∨ x ∈ ks1 := insK_said ks1 (h, t) HA1.out
  have heq : ks2 = insK ks1 (h, t) := Asc.unique hasc2 h1l.1 (fun p => by
    rw [hmem2, h1l.2, HMm.out, List.mem_append, List.mem_singleton]
    exact ⟨fun q => q.symm, fun q => q.symm⟩)
  have HEQ : Hid (ks2 = insK ks1 (h, t)) := heq
  clear heq h1l hasc2 hmem2 hb9 hb10 hb11 hM9 hM10 hM11 hM12 hown10 hown11 hS11 hk12 hmk9 hbs hr9 hkv10 hF11
  go_wp2_with fail
  refine (order_any (w10.heap.size + 1) 0 0 w8.heap.size w10.heap.size a2 ks2.length cap2 true w12 hS12).mono ?_
  rintro e w' ⟨rfl, rfl⟩
  go_wp2_with fail
  refine (readOrder_any a2 cap2 ks2 w12 (by omega) hkr12).mono ?_
  rintro e w13 ⟨xs13, rfl, hown13, hkv13, hb13⟩
  have hF13 : Below w5.heap.size w5 w13 := hF12.trans (hb13.mono hF12.size)
  have hSA : StoreAt w13 (w1.heap.size + 1) 0 0 w.heap.size w1.heap.size (.slice a1 ks1.length cap1) true := HS5.out.below hF13
  have hSB : StoreAt w13 (w10.heap.size + 1) 0 0 w8.heap.size w10.heap.size (.slice a2 ks2.length cap2) true := hS12.below hb13
  have hK13 : KRow w13 (some ⟨w3.heap.size, 0, none⟩) ks1 := HK5.out.below hF13
  have hG13 : KRow w13 (some ⟨w12.heap.size, 0, none⟩) ks2 := KV.row hkv13 hown13
  have hlt13 : w12.heap.size < w13.heap.size := (hown13.lt _ rfl).2
  have z0 : w13.cell? ⟨w4.heap.size, 0, none⟩ = some (.string h) := (hF13.cell (p := ⟨w4.heap.size, 0, none⟩) h45).trans e0
  have z1 : w13.cell? ⟨w4.heap.size, 1, none⟩ = some (.string t) := (hF13.cell (p := ⟨w4.heap.size, 1, none⟩) h45).trans e1
  clear hown13 hkv13 hb13 hS12 hkr12 hF12 y0 y1 e0 e1
  go_wp2_with fail
  refine (sorted_any _ _ _ _ _ _ _ w13 hSA).mono ?_
  rintro e w' ⟨rfl, rfl⟩
  go_wp2_with fail
  refine (sorted_any _ _ _ _ _ _ _ w13 hSB).mono ?_
  rintro e w' ⟨rfl, rfl⟩
  have hac := ascending_any (some ⟨w3.heap.size, 0, none⟩) ks1.length ks1 w13 (by omega) hs1 hK13
  rw [ascB_yes HA1.out] at hac
  have hd : decide ((ks1.length : Int) ≤ (ks.length : Int)) = true := decide_eq_true (by omega)
  have h313 : w3.heap.size < w13.heap.size := by have := hF13.size; omega
  have h413 : w4.heap.size < w13.heap.size := by have := hF13.size; omega
  go_wp2_with fail
  refine hac.mono ?_
  rintro e w14 ⟨rfl, hb14⟩
  have v0 : w14.cell? ⟨w4.heap.size, 0, none⟩ = some (.string h) := (hb14.cell (p := ⟨w4.heap.size, 0, none⟩) h413).trans z0
  have v1 : w14.cell? ⟨w4.heap.size, 1, none⟩ = some (.string t) := (hb14.cell (p := ⟨w4.heap.size, 1, none⟩) h413).trans z1
  have hG14 := hG13.below hb14
  have hK14 : KAt w14 w3.heap.size 0 ks1 := (hK13.below hb14).kat
  clear hac z0 z1 hSA hSB hK13
  go_wp2_with fail
  refine (insertKey_any w3.heap.size 0 ks1.length ks1 (h, t) w14 (by omega) (Nat.le_refl _) hs1 hh ht (Nat.lt_of_lt_of_le h313 hb14.size) hK14).mono ?_
  rintro e w15 ⟨g, rfl, hil, hgl, hglt, hK15, hb15⟩
  rw [← HEQ.out] at hK15 ⊢
  have hsk := sameKeys_any (some ⟨w12.heap.size, 0, none⟩) (some ⟨g, 0, none⟩) ks2.length (ks1.length + 1) ks2 w15 (by omega) (hG14.below hb15) (hK15.krow hglt)
  go_wp2_with fail
  refine hsk.mono ?_
  rintro e w16 ⟨rfl, hd16⟩
  have hfin : Below w.heap.size w w16 := by
    have q1 := HB5.out.trans (hF13.mono HB5.out.size)
    have q2 := q1.trans (hb14.mono q1.size)
    have q3 := q2.trans (hb15.mono q2.size)
    exact q3.trans (hd16.below _)
  clear hsk
  go_wp2
  go_ret
  exact ⟨rfl, hfin⟩

end Go.Proofs.Qxb6608833a
