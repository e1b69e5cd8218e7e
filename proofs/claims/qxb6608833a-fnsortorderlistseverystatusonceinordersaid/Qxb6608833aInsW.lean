import Derived.Test.Qxb6608833aInsert
namespace Go.Proofs.Qxb6608833a
open Go.RowKit

theorem rs {a : Option Addr} {n n' c : Nat} (h : n = n') : Ending.returned (.slice a n c) = .returned (.slice a n' c) := by rw [h]
theorem kat_add {w : World} {b off : Nat} {ks : List Key} (h : KAt w b off ks) : ∀ ad : Addr, some (⟨b, off, none⟩ : Addr) = some ad → ∀ j u, (kvl ks)[j]? = some u → w.cell? (ad.add j) = some u := by
  intro ad e j u hu
  cases e
  rw [Addr.add_lit]
  exact h j u hu
theorem kat_from {w : World} {b off cap p : Nat} {ks : List Key} (h : KAt w b off ks) (hp : p ≤ ks.length) (hcap : ks.length ≤ cap) {ao : Option Addr} (hao : ¬ cap = p → ao = some ⟨b, off + p * 2, none⟩) : ∀ ad : Addr, ao = some ad → ∀ j u, (kvl (ks.drop p))[j]? = some u → w.cell? (ad.add j) = some u := by
  intro ad e j u hu
  by_cases h0 : cap = p
  · have : ks.drop p = [] := List.drop_eq_nil_of_le (by omega)
    rw [this] at hu
    simp [kvl] at hu
  · rw [hao h0] at e
    exact kat_add (h.drop p hp) ad e j u hu
theorem len_take (ks : List Key) (p : Nat) (hp : p ≤ ks.length) : (kvl (ks.take p)).length = p * 2 := by rw [kvl_length, List.length_take, Nat.min_eq_left hp]
theorem len_drop (ks : List Key) (p : Nat) : (kvl (ks.drop p)).length = (ks.length - p) * 2 := by rw [kvl_length, List.length_drop]

set_option maxRecDepth 100000 in
set_option maxHeartbeats 4000000 in
theorem insertKey_any (b off cap : Nat) (ks : List Key) (k : Key) (w : World) (hl : ks.length ≤ 1048577) (hcap : ks.length ≤ cap) (hs : Sz ks) (k1 : k.1.size ≤ 9223372036854775807) (k2 : k.2.size ≤ 9223372036854775807) (hb : b < w.heap.size) (hR : KAt w b off ks) :
    Calls Try.prog 25 #[.slice (some ⟨b, off, none⟩) ks.length cap, .agg #[.string k.1, .string k.2]] w fun e w' => ∃ g, e = .returned (.slice (some ⟨g, 0, none⟩) (insK ks k).length (ks.length + 1)) ∧ (insK ks k).length ≤ ks.length + 1 ∧ w.heap.size ≤ g ∧ g < w'.heap.size ∧ KAt w' g 0 (insK ks k) ∧ Below w.heap.size w w' := by
  obtain ⟨i0, hi, hz0, hz1, hz2⟩ := info_parts Try.info47
  have hB0 : Below w.heap.size w (w.alloc (.cells #[.string k.1, .string k.2] 47)) := (Below.refl _ _).alloc (Nat.le_refl _) _
  have e0 : (w.alloc (.cells #[.string k.1, .string k.2] 47)).cell? ⟨w.heap.size, 0, none⟩ = some (.string k.1) := cell_of_row _ _ 0 _ 47 (0, 0) (heap_alloc_new w _)
  have e1 : (w.alloc (.cells #[.string k.1, .string k.2] 47)).cell? ⟨w.heap.size, 1, none⟩ = some (.string k.2) := cell_of_row _ _ 1 _ 47 (0, 0) (heap_alloc_new w _)
  have hR0 := hR.below hb hB0
  have hs0 : (w.alloc (.cells #[.string k.1, .string k.2] 47)).heap.size = w.heap.size + 1 := by simp
  go_enter Try.func25, Try.ntmps25
  go_wp2
  generalize w.alloc (.cells #[.string k.1, .string k.2] 47) = w0 at *
  have hG : w.heap.size < w0.heap.size := by omega
  have hb0 : b < w0.heap.size := by omega
  have HB0 : Hid (Below w.heap.size w w0) := hB0
  have HR0 : Hid (KAt w0 b off ks) := hR0
  clear hB0 hR0 hR hs0
  generalize hGG : w.heap.size = G at *
  have HGG : Hid (w.heap.size = G) := hGG
  clear hGG
  go_loopw [5] (fun i wr => ∃ p : Nat, p ≤ ks.length ∧ i = .int .i64 p ∧ (∀ j, j < p → cmpK (ks[j]?.getD nk) k < 0) ∧ Below w0.heap.size w0 wr) (fun i _ => ks.length - (intOf i).toNat)
  case atStart => exact ⟨0, Nat.zero_le _, rfl, fun j hj => by omega, Below.refl _ _⟩
  case round =>
    obtain ⟨p, hp, rfl, hall, hnx⟩ := hrel
    have HA : Hid (∀ j, j < p → cmpK (ks[j]?.getD nk) k < 0) := hall
    have HNX : Hid (Below w0.heap.size w0 wr) := hnx
    have y0 : wr.cell? ⟨G, 0, none⟩ = some (.string k.1) := (hnx.cell (p := ⟨G, 0, none⟩) hG).trans e0
    have y1 : wr.cell? ⟨G, 1, none⟩ = some (.string k.2) := (hnx.cell (p := ⟨G, 1, none⟩) hG).trans e1
    have hGr : G < wr.heap.size := Nat.lt_of_lt_of_le hG hnx.size
    have hbr : b < wr.heap.size := Nat.lt_of_lt_of_le hb0 hnx.size
    have HRr : Hid (KAt wr b off ks) := HR0.out.below hb0 hnx
    clear hall hnx e0 e1
    have i0' : (0 : Int) ≤ (p : Int) := by omega
    by_cases hlt : p < ks.length
    · have x0 := (HRr.out.at p hlt).1
      have x1 := (HRr.out.at p hlt).2
      have s0 := hs.at p hlt
      have i1' : (p : Int) < (ks.length : Int) := by omega
      have HS : Hid (∀ j, j < p → cmpK (ks[j]?.getD nk) k < 0) := HA.out
      have HX : Hid (∃ q, q = ks[p]?.getD nk) := ⟨_, rfl⟩
      obtain ⟨q, hq⟩ := HX.out
      rw [← hq] at x0 x1 s0
      have HQ : Hid (q = ks[p]?.getD nk) := hq
      clear hq HX
      have BB : Below wr.heap.size wr wr.drew := (Below.refl _ _).drew
      go_wp2
      go_region_held3 (fun w' => w'.cell? ⟨b, off + p * 2, none⟩ = some (.string q.1) ∧ w'.cell? ⟨b, off + p * 2 + 1, none⟩ = some (.string q.2) ∧ w'.cell? ⟨G, 0, none⟩ = some (.string k.1) ∧ w'.cell? ⟨G, 1, none⟩ = some (.string k.2)) (first | (refine ⟨?_, ?_, ?_, ?_⟩ <;> (first | (rw [hc']; assumption) | (rw [hg']; assumption))) | (refine ⟨?_, ?_, ?_, ?_⟩ <;> go_simp)) (first | (go_at_call 39; refine (cmpKey_any q k _ s0.1 s0.2 k1 k2).mono ?_; rintro e w' ⟨rfl, hb'⟩; replace BB := BB.trans (hb'.mono BB.size); have hc' : ∀ o, w'.cell? ⟨b, o, none⟩ = wr.cell? ⟨b, o, none⟩ := fun o => BB.cell (p := ⟨b, o, none⟩) hbr; have hg' : ∀ o, w'.cell? ⟨G, o, none⟩ = wr.cell? ⟨G, o, none⟩ := fun o => BB.cell (p := ⟨G, o, none⟩) hGr))
      have HN1 : Hid (Below w0.heap.size w0 w') := HNX.out.trans (BB.mono HNX.out.size)
      have HB1 : Hid (Below wr.heap.size wr w') := BB
      clear hb' BB
      by_cases hneg : cmpK q k < 0
      · have hstep : ∀ j, j < p + 1 → cmpK (ks[j]?.getD nk) k < 0 := by
          intro j hj
          by_cases e : j = p
          · subst e; rw [← HQ.out]; exact hneg
          · exact HA.out j (by omega)
        have HST : Hid (∀ j, j < p + 1 → cmpK (ks[j]?.getD nk) k < 0) := hstep
        clear hstep
        go_wp2
        go_roundw
        case rel => exact ⟨p + 1, by omega, by go_num, HST.out, HN1.out⟩
        case measure => simp [intOf]; omega
      · go_wp2_with (first | (at_make; refine wpList_make_own _ rfl _ _ 32 rfl 0 47 i0 (.agg #[.string ⟨#[]⟩, .string ⟨#[]⟩]) 2 Try.underlying32 hi hz0 hz1 _ _ _ (ks.length + 1) rfl rfl (by omega) (by rw [hz2]; omega) (by unfold maxLen; omega) (Nat.zero_le _) (fun w5 hown5 hgrow5 => Stop.go ?_)))
        unfold Stop
        have HB5 : Hid (Below wr.heap.size wr w5) := HB1.out.grown hgrow5 HB1.out.size (fun j e => by cases e)
        have HR5 : Hid (KAt w5 b off ks) := HRr.out.below hbr HB5.out
        have HR5t : Hid (KAt w5 b off (ks.take p)) := HR5.out.take p
        have hg5 : w'.heap.size < w5.heap.size := (hown5.lt _ rfl).2
        have hle5 : wr.heap.size ≤ w'.heap.size := HB1.out.size
        generalize w'.heap.size = g at *
        clear hgrow5
        go_wp2_with (first | (at_builtin; refine wpList_append_fits_any _ rfl _ _ 32 rfl 0 47 i0 2 Try.underlying32 hi hz1 g 0 (ks.length + 1) [] rfl hown5 (some ⟨b, off, none⟩) p cap (kvl (ks.take p)) rfl (len_take ks p hp) (by simp) (kat_add HR5t.out) (kvl_one _) (by omega) (fun w6 hown6 hgrow6 => Stop.go ?_)))
        unfold Stop
        have HB6 : Hid (Below wr.heap.size wr w6) := HB5.out.grown hgrow6 HB5.out.size (fun j e => by cases e; exact hle5)
        have HR6 : Hid (KAt w6 b off ks) := HRr.out.below hbr HB6.out
        have x6 := (HR6.out.at p hlt).1
        have x7 := (HR6.out.at p hlt).2
        rw [← HQ.out] at x6 x7
        have z6 : w6.cell? ⟨G, 0, none⟩ = some (.string k.1) := (HB6.out.cell (p := ⟨G, 0, none⟩) hGr).trans y0
        have z7 : w6.cell? ⟨G, 1, none⟩ = some (.string k.2) := (HB6.out.cell (p := ⟨G, 1, none⟩) hGr).trans y1
        have hb6 : b < w6.heap.size := Nat.lt_of_lt_of_le hbr HB6.out.size
        have hG6 : G < w6.heap.size := Nat.lt_of_lt_of_le hGr HB6.out.size
        have hg6 : g < w6.heap.size := (hown6.lt _ rfl).2
        have BB6 : Below w6.heap.size w6 w6.drew := (Below.refl _ _).drew
        simp only [Nat.zero_add, List.nil_append] at hown6 ⊢
        have HO6 : Hid (w6.ownsRow 0 47 2 (.slice (some ⟨g, 0, none⟩) p (ks.length + 1)) p (kvl (ks.take p))) := hown6
        clear hown6 hown5 hgrow6
        go_wp2
        go_region_held3 (fun w' => w'.cell? ⟨b, off + p * 2, none⟩ = some (.string q.1) ∧ w'.cell? ⟨b, off + p * 2 + 1, none⟩ = some (.string q.2) ∧ w'.cell? ⟨G, 0, none⟩ = some (.string k.1) ∧ w'.cell? ⟨G, 1, none⟩ = some (.string k.2)) (first | (refine ⟨?_, ?_, ?_, ?_⟩ <;> (first | (rw [hc7]; assumption) | (rw [hg7]; assumption))) | (refine ⟨?_, ?_, ?_, ?_⟩ <;> go_simp)) (first | (go_at_call 39; refine (cmpKey_any q k _ s0.1 s0.2 k1 k2).mono ?_; rintro e w7 ⟨rfl, hb7⟩; replace BB6 := BB6.trans (hb7.mono BB6.size); have hc7 : ∀ o, w7.cell? ⟨b, o, none⟩ = w6.cell? ⟨b, o, none⟩ := fun o => BB6.cell (p := ⟨b, o, none⟩) hb6; have hg7 : ∀ o, w7.cell? ⟨G, o, none⟩ = w6.cell? ⟨G, o, none⟩ := fun o => BB6.cell (p := ⟨G, o, none⟩) hG6))
        have HO7 := own_below HO6.out BB6
        have HR7 : Hid (KAt w7 b off ks) := HR6.out.below hb6 BB6
        have HB7 : Hid (Below wr.heap.size wr w7) := HB6.out.trans (BB6.mono HB6.out.size)
        have c0 : w7.cell? ⟨G, 0, none⟩ = some (.string k.1) := (hg7 0).trans z6
        have c1 : w7.cell? ⟨G, 1, none⟩ = some (.string k.2) := (hg7 1).trans z7
        clear hb7 BB6
        by_cases hzz : cmpK q k = 0
        · have HI : Hid (insK ks k = ks) := insK_there ks k p hlt HA.out (by rw [← HQ.out]; exact hzz)
          go_wp2_with (first | (at_builtin; refine wpList_append_fits_any _ rfl _ _ 32 rfl 0 47 i0 2 Try.underlying32 hi hz1 g p (ks.length + 1) (kvl (ks.take p)) rfl HO7 _ (ks.length - p) _ (kvl (ks.drop p)) rfl (len_drop ks p) (by intro h; first | cases h | (split at h <;> cases h)) (by exact kat_from HR7.out hp hcap (by intro h; first | rfl | simp [h])) (kvl_one _) (by omega) (fun w8 hown8 hgrow8 => Stop.go ?_)))
          unfold Stop
          have HB8 : Hid (Below wr.heap.size wr w8) := HB7.out.grown hgrow8 HB7.out.size (fun j e => by cases e; exact hle5)
          have hL : (insK ks k).length = p + (ks.length - p) := by rw [HI.out]; omega
          have HL : Hid ((insK ks k).length = p + (ks.length - p)) := hL
          clear hL
          have HO8 : Hid (w8.ownsRow 0 47 2 (.slice (some ⟨g, 0, none⟩) (p + (ks.length - p)) (ks.length + 1)) (p + (ks.length - p)) (kvl (insK ks k))) := by
            rw [HI.out, ← List.take_append_drop p ks, kvl_append, List.take_append_drop]; exact hown8
          clear hown8 hgrow8
          go_wp2
          go_ret
          have hfin : Below G w w8 := HB0.out.trans ((HNX.out.mono (by omega)).trans (HB8.out.mono (Nat.le_of_lt hGr)))
          exact ⟨g, rs (by have := HL.out; omega), by have := HL.out; omega, by rw [HGG.out]; omega, (HO8.out.lt g rfl).2, KAt.own HO8.out, by rw [HGG.out]; exact hfin⟩
        · have HI : Hid (insK ks k = ks.take p ++ [k] ++ ks.drop p) := insK_new ks k p hp HA.out (fun _ => by rw [← HQ.out]; omega)
          have HOa : Hid ((w7.alloc (.cells #[.string k.1, .string k.2] 47)).ownsRow 0 47 2 (.slice (some ⟨g, 0, none⟩) p (ks.length + 1)) p (kvl (ks.take p))) := HO7.alloc _
          have HBa : Hid (Below wr.heap.size wr (w7.alloc (.cells #[.string k.1, .string k.2] 47))) := HB7.out.alloc HB7.out.size _
          have Hnw : Hid (∀ j u, [Value.string k.1, Value.string k.2][j]? = some u → (w7.alloc (.cells #[.string k.1, .string k.2] 47)).cell? ((⟨w7.heap.size, 0, none⟩ : Addr).add j) = some u) := fun j u hu => World.news_of_block (heap_alloc_new w7 (.cells #[.string k.1, .string k.2] 47)) j u hu
          go_wp2_with (first | (at_builtin; refine wpList_append_fits _ rfl _ _ 32 rfl 0 47 i0 2 Try.underlying32 hi hz1 g p (ks.length + 1) (kvl (ks.take p)) rfl HOa.out ⟨w7.heap.size, 0, none⟩ 1 1 [.string k.1, .string k.2] rfl rfl Hnw.out (by intro q hq; simp at hq; rcases hq with rfl | rfl <;> rfl) (by omega) (fun w8 hown8 hgrow8 => Stop.go ?_)))
          unfold Stop
          have HB8 : Hid (Below wr.heap.size wr w8) := HBa.out.grown hgrow8 HBa.out.size (fun j e => by cases e; exact hle5)
          have HR8 : Hid (KAt w8 b off ks) := HRr.out.below hbr HB8.out
          have HO8 : Hid (w8.ownsRow 0 47 2 (.slice (some ⟨g, 0, none⟩) (p + 1) (ks.length + 1)) (p + 1) (kvl (ks.take p) ++ [.string k.1, .string k.2])) := hown8
          clear hown8 hgrow8
          go_wp2_with (first | (at_builtin; refine wpList_append_fits_any _ rfl _ _ 32 rfl 0 47 i0 2 Try.underlying32 hi hz1 g (p + 1) (ks.length + 1) _ rfl HO8.out _ (ks.length - p) _ (kvl (ks.drop p)) rfl (len_drop ks p) (by intro h; first | cases h | (split at h <;> cases h)) (by exact kat_from HR8.out hp hcap (by intro h; first | rfl | simp [h])) (kvl_one _) (by omega) (fun w9 hown9 hgrow9 => Stop.go ?_)))
          unfold Stop
          have HB9 : Hid (Below wr.heap.size wr w9) := HB8.out.grown hgrow9 HB8.out.size (fun j e => by cases e; exact hle5)
          have hL : (insK ks k).length = p + 1 + (ks.length - p) := by rw [HI.out]; simp; omega
          have HO9 : Hid (w9.ownsRow 0 47 2 (.slice (some ⟨g, 0, none⟩) (p + 1 + (ks.length - p)) (ks.length + 1)) (p + 1 + (ks.length - p)) (kvl (insK ks k))) := by
            rw [HI.out, kvl_append, kvl_append]; exact hown9
          have HL : Hid ((insK ks k).length = p + 1 + (ks.length - p)) := hL
          clear hown9 hgrow9 hL
          go_wp2
          go_ret
          have hfin : Below G w w9 := by
            have := (HB0.out.trans ((HNX.out.mono (by omega)).trans (HB9.out.mono (Nat.le_of_lt hGr))))
            exact this
          exact ⟨g, rs (by have := HL.out; omega), by have := HL.out; omega, by rw [HGG.out]; omega, (HO9.out.lt g rfl).2, KAt.own HO9.out, by rw [HGG.out]; exact hfin⟩
    · obtain rfl : p = ks.length := by omega
      have d1 : decide ((ks.length : Int) < (ks.length : Int)) = false := by simp
      have HI : Hid (insK ks k = ks.take ks.length ++ [k] ++ ks.drop ks.length) := insK_new ks k ks.length hp HA.out (fun h => by omega)
      have HBd : Hid (Below wr.heap.size wr wr.drew) := (Below.refl _ _).drew
      go_wp2
      go_quiet (fail)
      go_wp2_with (first | (at_make; refine wpList_make_own _ rfl _ _ 32 rfl 0 47 i0 (.agg #[.string ⟨#[]⟩, .string ⟨#[]⟩]) 2 Try.underlying32 hi hz0 hz1 _ _ _ (ks.length + 1) rfl rfl (by omega) (by rw [hz2]; omega) (by unfold maxLen; omega) (Nat.zero_le _) (fun w5 hown5 hgrow5 => Stop.go ?_)))
      unfold Stop
      have HB5 : Hid (Below wr.heap.size wr w5) := (Dw.below ⟨nq, rfl⟩ wr.heap.size).grown hgrow5 (Nat.le_refl _) (fun j e => by cases e)
      have HR5 : Hid (KAt w5 b off ks) := HRr.out.below hbr HB5.out
      have HR5t : Hid (KAt w5 b off (ks.take ks.length)) := HR5.out.take ks.length
      have hle5 : wr.heap.size ≤ wr.heap.size := Nat.le_refl _
      have hown5 : w5.ownsRow 0 47 2 (.slice (some ⟨wr.heap.size, 0, none⟩) 0 (ks.length + 1)) 0 [] := hown5
      clear hgrow5
      go_wp2_with (first | (at_builtin; refine wpList_append_fits_any _ rfl _ _ 32 rfl 0 47 i0 2 Try.underlying32 hi hz1 wr.heap.size 0 (ks.length + 1) [] rfl hown5 (some ⟨b, off, none⟩) ks.length cap (kvl (ks.take ks.length)) rfl (len_take ks ks.length hp) (by simp) (kat_add HR5t.out) (kvl_one _) (by omega) (fun w6 hown6 hgrow6 => Stop.go ?_)))
      unfold Stop
      have HB6 : Hid (Below wr.heap.size wr w6) := HB5.out.grown hgrow6 HB5.out.size (fun j e => by cases e; exact hle5)
      simp only [Nat.zero_add, List.nil_append] at hown6 ⊢
      have HO6 : Hid (w6.ownsRow 0 47 2 (.slice (some ⟨wr.heap.size, 0, none⟩) ks.length (ks.length + 1)) ks.length (kvl (ks.take ks.length))) := hown6
      clear hown6 hown5 hgrow6
      go_wp2
      go_quiet (fail)
      have HO7 : Hid ((w6.drewN nq).ownsRow 0 47 2 (.slice (some ⟨wr.heap.size, 0, none⟩) ks.length (ks.length + 1)) ks.length (kvl (ks.take ks.length))) := HO6.out
      have HB7 : Hid (Below wr.heap.size wr (w6.drewN nq)) := HB6.out.trans (Dw.below ⟨nq, rfl⟩ _)
      have c0 : (w6.drewN nq).cell? ⟨G, 0, none⟩ = some (.string k.1) := (HB7.out.cell (p := ⟨G, 0, none⟩) hGr).trans y0
      have c1 : (w6.drewN nq).cell? ⟨G, 1, none⟩ = some (.string k.2) := (HB7.out.cell (p := ⟨G, 1, none⟩) hGr).trans y1
      generalize w6.drewN nq = w7 at *
      have HOa : Hid ((w7.alloc (.cells #[.string k.1, .string k.2] 47)).ownsRow 0 47 2 (.slice (some ⟨wr.heap.size, 0, none⟩) ks.length (ks.length + 1)) ks.length (kvl (ks.take ks.length))) := HO7.out.alloc _
      have HBa : Hid (Below wr.heap.size wr (w7.alloc (.cells #[.string k.1, .string k.2] 47))) := HB7.out.alloc HB7.out.size _
      have Hnw : Hid (∀ j u, [Value.string k.1, Value.string k.2][j]? = some u → (w7.alloc (.cells #[.string k.1, .string k.2] 47)).cell? ((⟨w7.heap.size, 0, none⟩ : Addr).add j) = some u) := fun j u hu => World.news_of_block (heap_alloc_new w7 (.cells #[.string k.1, .string k.2] 47)) j u hu
      go_wp2_with (first | (at_builtin; refine wpList_append_fits _ rfl _ _ 32 rfl 0 47 i0 2 Try.underlying32 hi hz1 wr.heap.size ks.length (ks.length + 1) (kvl (ks.take ks.length)) rfl HOa.out ⟨w7.heap.size, 0, none⟩ 1 1 [.string k.1, .string k.2] rfl rfl Hnw.out (by intro q hq; simp at hq; rcases hq with rfl | rfl <;> rfl) (by omega) (fun w8 hown8 hgrow8 => Stop.go ?_)))
      unfold Stop
      have HB8 : Hid (Below wr.heap.size wr w8) := HBa.out.grown hgrow8 HBa.out.size (fun j e => by cases e; exact hle5)
      have HR8 : Hid (KAt w8 b off ks) := HRr.out.below hbr HB8.out
      have HO8 : Hid (w8.ownsRow 0 47 2 (.slice (some ⟨wr.heap.size, 0, none⟩) (ks.length + 1) (ks.length + 1)) (ks.length + 1) (kvl (ks.take ks.length) ++ [.string k.1, .string k.2])) := hown8
      clear hown8 hgrow8
      have hL : (insK ks k).length = ks.length + 1 := by rw [HI.out]; simp
      have HL : Hid ((insK ks k).length = ks.length + 1) := hL
      have HO9 : Hid (w8.ownsRow 0 47 2 (.slice (some ⟨wr.heap.size, 0, none⟩) (ks.length + 1) (ks.length + 1)) (ks.length + 1) (kvl (insK ks k))) := by
        have e : kvl (insK ks k) = kvl (ks.take ks.length) ++ [.string k.1, .string k.2] := by rw [HI.out, List.drop_length, List.append_nil, kvl_snoc]
        rw [e]; exact HO8.out
      clear hL
      go_wp2
      all_goals
        go_ret
        have hfin : Below G w w8 := HB0.out.trans ((HNX.out.mono (by omega)).trans (HB8.out.mono (Nat.le_of_lt hGr)))
        exact ⟨wr.heap.size, rs (by have := HL.out; omega), by have := HL.out; omega, by rw [HGG.out]; omega, (HO9.out.lt _ rfl).2, KAt.own HO9.out, by rw [HGG.out]; exact hfin⟩

end Go.Proofs.Qxb6608833a
