import Derived.Test.Qxb6608833aClear
import Derived.Deep.RegionLaw
import Derived.BigFrame
namespace Go.Proofs.Qxb6608833a
open Go.RowKit

/-- The walk stands still here. -/
def Stop (p : Prop) : Prop := p
theorem Stop.go {p : Prop} (h : Stop p) : p := h

theorem Kept.drewn (ex : Nat → Prop) (w : World) : Kept ex w w.drew := ⟨rfl, rfl, rfl, Nat.le_refl _, fun _ _ _ => rfl⟩
theorem ranges_drew {w : World} {b r n : Nat} {D : DataW Unit} {left : Lit → Bool} {cnt : Nat} (h : w.ranges Try.prog 103 RS b r n D left cnt) : w.drew.ranges Try.prog 103 RS b r n D left cnt := h

/-- slices.SortFunc of a row that is owned. -/
theorem sortV_any (v : Value) (L : List Key) (w : World) (h : w.ownsRow 0 103 2 v L.length (kvl L)) (hn : L.Nodup) (hl : L.length ≤ 1048577) :
    Calls Try.prog 62 #[v, .func (.func 63) #[] #[]] w fun e w' => ∃ ks' a' cap', e = .returned (.tuple #[]) ∧ v = .slice a' ks'.length cap' ∧ Asc ks' ∧ ks'.Perm L ∧ KRow w' a' ks' ∧ w.grownBy w' v.ownBlock := by
  rcases h.2 with ⟨rfl, h0⟩ | ⟨g, cap, cur, rfl, _, hg, _⟩
  · obtain rfl : L = [] := List.eq_nil_of_length_eq_zero h0
    refine (sortKeys_nil w).mono ?_
    rintro e w' ⟨rfl, rfl⟩
    exact ⟨[], none, 0, rfl, rfl, List.Pairwise.nil, List.Perm.refl _, .inl rfl, World.grownBy.refl _ _⟩
  · refine (sortKeys_any g cap L w hn (h.lt g rfl).2 hl (fun j hj => ?_) (fun j => h.frozenAt j)).mono ?_
    · rw [h.cellAt _ (by omega), h.cellAt _ (by omega)]
      exact kvl_at L j hj
    · rintro e w' ⟨ks', rfl, ha, hp, hr, hgr⟩
      exact ⟨ks', some ⟨g, 0, none⟩, cap, rfl, by rw [hp.length_eq], ha, hp, hr, hgr⟩

set_option maxRecDepth 100000 in
set_option maxHeartbeats 4000000 in
theorem sortOrder_any (S : Nat) (st cnt : Int) (B u : Nat) (a : Option Addr) (n cap m base : Nat) (D : DataW Unit) (ks : List Key) (xs : List Value) (w : World)
    (hS : StoreAt w S st cnt B u (.slice a n cap) false) (hrow : w.ownsRow base 103 2 (.slice a n cap) n xs) (hM : w.ownsMap Try.prog 103 RS B m D) (hmk : MK D ks) (hmb : m ≤ 1048577) (hz : Sz ks) :
    Calls Try.prog 42 #[.pointer (some ⟨S, 0, none⟩)] w fun e w' => ∃ ks' a' cap', e = .returned (.tuple #[]) ∧ Asc ks' ∧ (∀ p, p ∈ ks' ↔ p ∈ ks) ∧ ks'.length ≤ m ∧ StoreAt w' S st cnt B u (.slice a' ks'.length cap') true ∧ KRow w' a' ks' ∧ (∀ g off, a' = some ⟨g, off, none⟩ → g ≠ S) ∧ w'.ownsMap Try.prog 103 RS B m D ∧ Kept (fun k => k = S ∨ (Value.slice a n cap).ownBlock = some k) w w' := by
  obtain ⟨i0, hi, hz0, hz1, hz2⟩ := info_parts Try.info103
  obtain ⟨w1, xs1, hcl, hrow1, hg1⟩ := clear_own (own0 hrow)
  have hneS := own_ne_store hrow hS
  have hneB := own_ne_map hrow hM
  have hS1 : StoreAt w1 S st cnt B u (.slice a n cap) false := (Kept.grown hg1).store hS hneS
  have hM1 : w1.ownsMap Try.prog 103 RS B m D := hM.kept hg1 (fun e => hneB e.symm)
  have c19 : w.cell? ⟨S, 19, none⟩ = some (.slice a n cap) := hS.cell 19
  have c20 : w.cell? ⟨S, 20, none⟩ = some (.bool false) := hS.cell 20
  have d19 : w1.cell? ⟨S, 19, none⟩ = some (.slice a n cap) := hS1.cell 19
  have d6 : w1.cell? ⟨S, 6, none⟩ = some (.map (some B)) := hS1.cell 6
  have f19 : w1.frozen? ⟨S, 19, none⟩ = false := hS1.frozen 19
  have K1 : Kept (fun k => k = S ∨ (Value.slice a n cap).ownBlock = some k) w w1 := (Kept.grown hg1).mono (fun _ _ e => .inr e)
  -- the slice that is cut to nothing
  have hcut : ∃ a0, (a0 = a ∧ ((a = none ∧ n = 0 ∧ cap = 0) ∨ ∃ g, a = some ⟨g, 0, none⟩)) := by
    refine ⟨a, rfl, ?_⟩
    rcases hrow.2 with ⟨h1, h2⟩ | ⟨g, cap', cur, h1, _⟩
    · cases h1; exact .inl ⟨rfl, rfl, rfl⟩
    · cases h1; exact .inr ⟨g, rfl⟩
  obtain ⟨a0, rfl, hcut⟩ := hcut
  have hrow2 : w1.ownsRow 0 103 2 (.slice a0 0 cap) 0 [] := by
    rcases hrow1.2 with ⟨h1, h2⟩ | ⟨g, cap', cur, h1, hb, hg, hnc, hcm, hcs, _⟩
    · cases h1; exact World.ownsRow_nil _ _ _ _
    · cases h1; exact ⟨by simp, .inr ⟨g, cap, cur, rfl, hb, hg, Nat.zero_le _, hcm, hcs, by simp⟩⟩
  have hS2 := hS1.order (.slice a0 0 cap)
  have hg2 := grownBy_setCell w1 ⟨S, 19, none⟩ (.slice a0 0 cap)
  have hM2 := hM1.kept hg2 (fun e => store_ne_map hS1 hM1 (Option.some.inj e).symm)
  have hrow3 := hrow2.kept hg2 (.inr (own_ne_store hrow2 hS1))
  have K2 := K1.trans (Kept.grown hg2) (fun j _ e => .inl (Option.some.inj e).symm)
  have hl0 : (0 : Int) ≤ (n : Int) := by omega
  have hnc : n ≤ cap := by
    rcases hrow.2 with ⟨h1, h2⟩ | ⟨g, cap', cur, h1, _, _, h, _⟩
    · omega
    · cases h1; exact h
  have HS : Hid (StoreAt (w1.setCell ⟨S, 19, none⟩ (.slice a0 0 cap)) S st cnt B u (.slice a0 0 cap) false) := hS2
  have HM : Hid ((w1.setCell ⟨S, 19, none⟩ (.slice a0 0 cap)).ownsMap Try.prog 103 RS B m D) := hM2
  have HR : Hid ((w1.setCell ⟨S, 19, none⟩ (.slice a0 0 cap)).ownsRow 0 103 2 (.slice a0 0 cap) 0 []) := hrow3
  have HK : Hid (Kept (fun k => k = S ∨ (Value.slice a0 n cap).ownBlock = some k) w (w1.setCell ⟨S, 19, none⟩ (.slice a0 0 cap))) := K2
  have HN : Hid (∀ g, (Value.slice a0 0 cap).ownBlock = some g → (Value.slice a0 n cap).ownBlock = some g) := fun g e => by cases a0 <;> exact e
  clear hS hrow hM hrow1 hg1 hneS hneB hS1 hM1 K1 hS2 hM2 hrow3 hrow2 hg2 K2
  obtain ⟨V0, hV0⟩ : ∃ V0, V0 = Value.slice a0 n cap := ⟨_, rfl⟩
  rw [← hV0] at HK HN ⊢
  clear hV0
  rcases hcut with ⟨rfl, rfl, rfl⟩ | ⟨g, rfl⟩
  all_goals
    go_enter Try.func42, Try.ntmps42
    go_wp2_with (first | (simp only [hcl]) | (at_range; refine wpList_range_own _ rfl _ 38 rfl 103 58 Try.keyed103 Try.underlying38 RS B m D rfl HM.out ?_; intro w3 hrg0 hg0 hs0))
    have hS3 := (Kept.grown hg0).store HS.out (by simp)
    have hR3 := HR.out.kept hg0 (by cases hv : Value.ownBlock _ <;> simp)
    have hK3 := HK.out.trans (Kept.grown hg0) (fun j _ e => by cases e)
    have hr0 : w.heap.size ≤ w3.heap.size := hK3.size
    have hsz := size_le HM.out
    have hrle : w.heap.size ≤ w3.heap.size - 1 := by have := HK.out.size; omega
    rw [World.size_setCell] at hrg0 hs0
    go_frame
    rw [World.size_setCell]
    generalize w1.heap.size = r at hrg0 hs0 ⊢
    have hrw : w.heap.size ≤ r := by omega
    clear hg0 HS HM HR HK hcl c19 c20 d19 d6 f19 hr0 hrle
    go_loopw [2] (fun _ wr => ∃ (L : List Key) (v : Value) (left : Lit → Bool) (c : Nat), wr.ranges Try.prog 103 RS B r m D left c ∧ StoreAt wr S st cnt B u v false ∧ wr.ownsRow 0 103 2 v L.length (kvl L) ∧ Coll D left L ∧ L.length + c ≤ m ∧ (∀ g, v.ownBlock = some g → V0.ownBlock = some g ∨ w.heap.size ≤ g) ∧ Kept (fun k => k = S ∨ V0.ownBlock = some k) w wr) (fun _ wr => wr.rangeLeft B r)
    case atStart => exact ⟨[], _, _, _, hrg0, hS3, hR3, Coll.start D, by simp; exact hsz, fun g e => .inl (HN.out g e), hK3⟩
    case round =>
      obtain ⟨L, v, left, c, hrg, hSt, hrow, hcoll, hlen, hat, hkp⟩ := hrel
      clear hrg0 hS3 hR3 hK3 hs0
      have HC : Hid (Coll D left L) := hcoll
      have HA : Hid (∀ g, v.ownBlock = some g → V0.ownBlock = some g ∨ w.heap.size ≤ g) := hat
      have HKp : Hid (Kept (fun k => k = S ∨ V0.ownBlock = some k) w wr) := hkp
      have HRg : Hid (wr.ranges Try.prog 103 RS B r m D left c) := hrg
      have HSt : Hid (StoreAt wr S st cnt B u v false) := hSt
      have HRow : Hid (wr.ownsRow 0 103 2 v L.length (kvl L)) := hrow
      clear hcoll hat hkp hrg hSt hrow
      go_wp2_with (at_next; refine wpList_next_ranges _ rfl _ rfl 103 Try.keyed103 RS (fun p : Key => Value.agg #[.string p.1, .string p.2]) (fun v : Value => v) KL.inv (fun v y hv => ⟨v, rfl⟩) B r m D left c rfl HRg.out (fun hc0 hl0 => Stop.go ?_) (fun x vv kl y wn cnt' hkey hlk hv hat' hrg1 hlt hg1 hs1 hen => Stop.go ?_))
      · unfold Stop
        have s19 : wr.cell? ⟨S, 19, none⟩ = some v := HSt.out.cell 19
        have hall := HC.out.done hmk hz hl0
        clear hl0
        go_wp2_with fail
        refine (sortV_any v L wr HRow.out HC.out.nodup (by omega)).mono ?_
        rintro e w4 ⟨ks', a', cap', rfl, rfl, hasc, hperm, hkr, hgr4⟩
        have hne := own_ne_store HRow.out HSt.out
        have hS4 : StoreAt w4 S st cnt B u (.slice a' ks'.length cap') false := (Kept.grown hgr4).store HSt.out hne
        have hM4 := HRg.out.owns.kept hgr4 (fun e => own_ne_map HRow.out HRg.out.owns e.symm)
        have hK4 := HKp.out.trans (Kept.grown hgr4) (fun j hj e => by
          rcases HA.out j e with h1 | h1
          · exact .inr h1
          · omega)
        have s20 : w4.cell? ⟨S, 20, none⟩ = some (.bool false) := hS4.cell 20
        have f20 : w4.frozen? ⟨S, 20, none⟩ = false := hS4.frozen 20
        have hg5 := grownBy_setCell w4 ⟨S, 20, none⟩ (.bool true)
        have hneg : ∀ g off, a' = some ⟨g, off, none⟩ → g ≠ S := fun g off e e' => hne (by rw [e, e']; rfl)
        have R1 := hS4.sorted true
        have R2 : KRow (w4.setCell ⟨S, 20, none⟩ (.bool true)) a' ks' := by
          rcases hkr with e | ⟨b, off, e, hb, hc⟩
          · exact .inl e
          · have hx := hneg b off e
            have hk : KRow w4 (some ⟨b, off, none⟩) ks' := .inr ⟨b, off, rfl, hb, hc⟩
            rw [e]
            exact (Kept.grown hg5).krow (fun e => hx (Option.some.inj e).symm) hk
        have R3 := hM4.kept hg5 (fun e => store_ne_map hS4 hM4 (Option.some.inj e).symm)
        have R4 := hK4.trans (Kept.grown hg5) (fun j _ e => .inl (Option.some.inj e).symm)
        have R5 : ∀ p, p ∈ ks' ↔ p ∈ ks := fun p => (hperm.mem_iff).trans (hall p)
        have R6 : ks'.length ≤ m := by rw [hperm.length_eq]; omega
        have RR : Hid (∃ ks'_1 a'_1 cap'_1, Asc ks'_1 ∧ (∀ p, p ∈ ks'_1 ↔ p ∈ ks) ∧ ks'_1.length ≤ m ∧ StoreAt (w4.setCell ⟨S, 20, none⟩ (.bool true)) S st cnt B u (.slice a'_1 ks'_1.length cap'_1) true ∧ KRow (w4.setCell ⟨S, 20, none⟩ (.bool true)) a'_1 ks'_1 ∧ (∀ g off, a'_1 = some ⟨g, off, none⟩ → g ≠ S) ∧ (w4.setCell ⟨S, 20, none⟩ (.bool true)).ownsMap Try.prog 103 RS B m D ∧ Kept (fun k => k = S ∨ V0.ownBlock = some k) w (w4.setCell ⟨S, 20, none⟩ (.bool true))) :=
          ⟨ks', a', cap', hasc, R5, R6, R1, R2, hneg, R3, R4⟩
        clear hasc hperm hkr hgr4 hall hne hS4 hM4 hK4 hg5 hneg R1 R2 R3 R4 R5 R6
        go_wp2
        go_end0
        obtain ⟨k1, k2, k3, k4⟩ := RR.out
        exact ⟨k1, k2, k3, rfl, k4⟩
      · unfold Stop
        have hSn : StoreAt wn S st cnt B u v false := (Kept.grown hg1).store HSt.out (fun e => store_ne_iter HSt.out HRg.out (Option.some.inj e).symm)
        have hRn := HRow.out.kept hg1 (.inr (own_ne_iter HRow.out HRg.out))
        have s19 : wn.cell? ⟨S, 19, none⟩ = some v := hSn.cell 19
        have hnew := World.new_ne wn ⟨S, 19, none⟩ s19
        have HSn : Hid (StoreAt wn S st cnt B u v false) := hSn
        have HRn : Hid (wn.ownsRow 0 103 2 v L.length (kvl L)) := hRn
        have Hkey : Hid (KL x kl) := hkey
        have Hrg1 : Hid (wn.ranges Try.prog 103 RS B r m D (fun z => left z && !z.sameKey kl) cnt') := hrg1
        have Hg1 : Hid (wr.grownBy wn (some r)) := hg1
        have HRw : Hid (∀ o1 o2, ((wn.alloc o1).drew.alloc o2).ownsRow 0 103 2 v L.length (kvl L)) := fun o1 o2 => (hRn.alloc o1).drew.alloc o2
        have HBk : Hid (∀ o1, ((wn.alloc o1).drew.alloc (.cells #[.string x.1, .string x.2] 103)).heap[wn.heap.size + 1]? = some (.cells #[.string x.1, .string x.2] 103 (0, 0))) := fun o1 => by
          have := heap_alloc_new (wn.alloc o1).drew (.cells #[.string x.1, .string x.2] 103)
          simpa using this
        have HSw : Hid (∀ o1 o2, StoreAt ((wn.alloc o1).drew.alloc o2) S st cnt B u v false) := fun o1 o2 =>
          (Kept.grown (World.grownBy_alloc (wn.alloc o1).drew o2 none)).store ((Kept.grown (World.grownBy_alloc wn o1 none)).store hSn (by simp)) (by simp)
        have hneS := own_ne_store hRn hSn
        have HKx : Hid (Kept (fun k => k = S ∨ V0.ownBlock = some k) w ((wn.alloc (.cells #[.string x.1, .string x.2] 103)).drew.alloc (.cells #[.string x.1, .string x.2] 103))) :=
          (((HKp.out.trans (Kept.grown hg1) (fun j hj e => by cases e; omega)).trans (Kept.grown (World.grownBy_alloc wn (.cells #[.string x.1, .string x.2] 103) none)) (fun j _ e => by cases e)).trans (Kept.drewn (fun _ => False) _) (fun j _ e => e.elim)).trans (Kept.grown (World.grownBy_alloc (wn.alloc (.cells #[.string x.1, .string x.2] 103)).drew (.cells #[.string x.1, .string x.2] 103) none)) (fun j _ e => by cases e)
        have HRx : Hid (((wn.alloc (.cells #[.string x.1, .string x.2] 103)).drew.alloc (.cells #[.string x.1, .string x.2] 103)).ranges Try.prog 103 RS B r m D (fun z => left z && !z.sameKey kl) cnt') := (ranges_drew (hrg1.alloc (.cells #[.string x.1, .string x.2] 103))).alloc (.cells #[.string x.1, .string x.2] 103)
        have q1 : (wn.alloc (.cells #[.string x.1, .string x.2] 103)).cell? ⟨S, 19, none⟩ = some v := ((Kept.grown (World.grownBy_alloc wn (.cells #[.string x.1, .string x.2] 103) none)).store hSn (by simp)).cell 19
        have q2 : (wn.alloc (.cells #[.string x.1, .string x.2] 103)).drew.cell? ⟨S, 19, none⟩ = some v := q1
        have q3 : ((wn.alloc (.cells #[.string x.1, .string x.2] 103)).drew.alloc (.cells #[.string x.1, .string x.2] 103)).cell? ⟨S, 19, none⟩ = some v := (HSw.out _ _).cell 19
        clear hSn hRn hkey hrg1 hg1 hat' hv hs1
        have q4 : ((wn.alloc (.cells #[.string x.1, .string x.2] 103)).alloc (.cells #[.string x.1, .string x.2] 103)).cell? ⟨S, 19, none⟩ = some v := q3
        have q5 : ((wn.alloc (.cells #[.string x.1, .string x.2] 103)).alloc (.cells #[.string x.1, .string x.2] 103)).drew.cell? ⟨S, 19, none⟩ = some v := q3
        go_wp2
        go_region_law (refine step_append_lies _ rfl (.tmp 32) (.tmp 34) 40 rfl 0 103 i0 (.agg #[.string ⟨#[]⟩, .string ⟨#[]⟩]) 2 32 Try.underlying40 hi hz0 hz1 hz2 rfl (by decide) v L.length (kvl L) (by simp [Act.eval]) (HRw.out (.cells #[.string x.1, .string x.2] 103) (.cells #[.string x.1, .string x.2] 103)) ⟨wn.heap.size + 1, 0, none⟩ 1 1 [.string x.1, .string x.2] (by simp [Act.eval]) rfl (fun j u hu => World.news_of_block (HBk.out (.cells #[.string x.1, .string x.2] 103)) j u hu) (by intro q hq; simp at hq; rcases hq with rfl | rfl <;> rfl) (by decide) (by unfold maxLen; omega) (by omega) (Nat.zero_le _) _ rfl ?_; intro g2 cap2 w2 hown2 hgrow2 hat2 hlt2; have hS2 := (Kept.grown hgrow2).store (HSw.out (.cells #[.string x.1, .string x.2] 103) (.cells #[.string x.1, .string x.2] 103)) hneS; have t19 : w2.cell? ⟨S, 19, none⟩ = some v := hS2.cell 19; have z19 : w2.frozen? ⟨S, 19, none⟩ = false := hS2.frozen 19)
        all_goals
          have hgX : ((wn.alloc (.cells #[.string x.1, .string x.2] 103)).drew.alloc (.cells #[.string x.1, .string x.2] 103)).grownBy w2 v.ownBlock := hgrow2
          have hg5 := grownBy_setCell w2 ⟨S, 19, none⟩ (.slice (some ⟨g2, 0, none⟩) (L.length + 1) cap2)
          have n1 := own_ne_map HRow.out HRg.out.owns
          have n2 := own_ne_iter HRow.out HRg.out
          have n3 := store_ne_map HSt.out HRg.out.owns
          have n4 := store_ne_iter HSt.out HRg.out
          have R1 := (HRx.out.kept hgX (fun e => n1 e.symm) (fun e => n2 e.symm)).kept hg5 (fun e => n3 (Option.some.inj e).symm) (fun e => n4 (Option.some.inj e).symm)
          have R2 := hS2.order (.slice (some ⟨g2, 0, none⟩) (L.length + 1) cap2)
          have R3 : (w2.setCell ⟨S, 19, none⟩ (.slice (some ⟨g2, 0, none⟩) (L.length + 1) cap2)).ownsRow 0 103 2 (.slice (some ⟨g2, 0, none⟩) (L.length + 1) cap2) (L ++ [x]).length (kvl (L ++ [x])) := by
            rw [kvl_snoc, List.length_append]
            exact hown2.kept hg5 (.inr (own_ne_store hown2 hS2))
          have R4 := HC.out.step Hkey.out hlk
          have R5 : (L ++ [x]).length + cnt' ≤ m := by rw [List.length_append, List.length_singleton]; omega
          have R6 : ∀ g, (Value.slice (some ⟨g2, 0, none⟩) (L.length + 1) cap2).ownBlock = some g → V0.ownBlock = some g ∨ w.heap.size ≤ g := by
            intro g e
            cases e
            rcases hat2 with e | e
            · exact HA.out _ e
            · right
              have h1 := HKx.out.size
              have h2 : g2 = ((wn.alloc (.cells #[.string x.1, .string x.2] 103)).drew.alloc (.cells #[.string x.1, .string x.2] 103)).heap.size := e
              exact Nat.le_trans h1 (Nat.le_of_eq h2.symm)
          have R7 := (HKx.out.trans (Kept.grown hgX) (fun j hj e => by
            rcases HA.out j e with h1 | h1
            · exact .inr h1
            · omega)).trans (Kept.grown hg5) (fun j _ e => .inl (Option.some.inj e).symm)
          have hle := R1.left_eq
          have hle0 := HRg.out.left_eq
          clear hgX hg5 n1 n2 n3 n4 hown2 hgrow2 hat2 hS2
          go_wp2
          go_roundw
          case rel => exact ⟨L ++ [x], _, _, _, R1, R2, R3, R4, R5, R6, R7⟩
          case measure => rw [hle, hle0]; exact hlt

end Go.Proofs.Qxb6608833a
