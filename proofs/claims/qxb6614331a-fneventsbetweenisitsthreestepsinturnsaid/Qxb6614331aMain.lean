import Derived.Test.Qxb6614331aPtr
import Derived.Laws.AppendOwnNone
namespace Go.Proofs.Qxb6614331a
open Go.RowKit

/-- A slice below block B that holds the strings L: nil, or at its row's head. -/
def Str (B : Nat) (w : World) (v : Value) (L : List ByteArray) : Prop := (L = [] ∧ v = .slice none 0 0) ∨ ∃ g cap, v = .slice (some ⟨g, 0, none⟩) L.length cap ∧ g < B ∧ ∀ j, j < L.length → w.cell? ⟨g, j, none⟩ = some (.string (L[j]?.getD ⟨#[]⟩))

theorem Str.below {B B' : Nat} {w w' : World} {v : Value} {L : List ByteArray} (h : Str B w v L) (hb : Below B' w w') (hB : B ≤ B') : Str B w' v L := by
  rcases h with h | ⟨g, cap, e, hg, hc⟩
  · exact .inl h
  · exact .inr ⟨g, cap, e, hg, fun j hj => (hb.cell (p := ⟨g, j, none⟩) (by show g < B'; omega)).trans (hc j hj)⟩
theorem Str.mono {B B' : Nat} {w : World} {v : Value} {L : List ByteArray} (h : Str B w v L) (hB : B ≤ B') : Str B' w v L := by
  rcases h with h | ⟨g, cap, e, hg, hc⟩
  · exact .inl h
  · exact .inr ⟨g, cap, e, by omega, hc⟩
theorem Str.shape {B : Nat} {w : World} {v : Value} {L : List ByteArray} (h : Str B w v L) : ∃ a cap, v = .slice a L.length cap := by
  rcases h with ⟨rfl, rfl⟩ | ⟨g, cap, e, _⟩
  · exact ⟨none, 0, rfl⟩
  · exact ⟨_, _, e⟩
theorem Str.strs {B : Nat} {w : World} {v : Value} {L : List ByteArray} (h : Str B w v L) : Strs w v L := by
  rcases h with ⟨rfl, rfl⟩ | ⟨g, cap, e, _, hc⟩
  · exact .inl ⟨rfl, _, _, rfl⟩
  · exact .inr ⟨g, cap, e, hc⟩
theorem Holds.str {B : Nat} {w0 w : World} {v : Value} {L : List ByteArray} (h : Holds B w0 w v L) : Str w.heap.size w v L := by
  rcases h.row.2 with ⟨e1, e2⟩ | ⟨g, cap, cur, rfl, hb, hg, r⟩
  · exact .inl ⟨List.eq_nil_of_length_eq_zero e2, e1⟩
  · refine .inr ⟨g, cap, rfl, (h.row.lt g rfl).2, fun j hj => ?_⟩
    rw [h.row.cellAt j (by omega)]
    simp [List.getElem?_eq_getElem hj]

/-- 'steps = append(steps, xs...)'. -/
theorem append_strs {w : World} {ops : Array Oper} {rest : List Oper} {o : Oper} {a : Act} {Q : Exit → Act → World → Prop} (hgd : o.guard = none) (s x : Operand)
    (ho : o.op = .call { callee := .builtin .append, args := #[s, x], argTypes := #[31, 31] }) (B : Nat) (w0 : World) (v vx : Value) (L L' : List ByteArray) (hs : a.eval s = v) (hx : a.eval x = vx)
    (hH : Holds B w0 w v L) (hX : Str B w vx L') (hlen : L.length + L'.length ≤ 1000)
    (h : ∀ v' w', Holds B w0 w' v' (L ++ L') → Below B w w' → wpList Try.prog ops Q rest (a.put o.dst v') w') : wpList Try.prog ops Q (o :: rest) a w := by
  obtain ⟨i0, hi, hz0, hz1, hz2⟩ := info_parts Try.info34
  have hB : B ≤ w.heap.size := Nat.le_trans hH.size hH.below.size
  rcases hX with ⟨rfl, rfl⟩ | ⟨g, cap, rfl, hg, hc⟩
  · refine wpList_append_own_none hgd s x 31 ho B 34 i0 1 Try.underlying31 hi v L.length (strV L) hs hH.row hx ?_
    exact h v w (by simpa using hH) (Below.refl _ _)
  · refine wpList_append_own _ hgd s x 31 ho B 34 i0 (.string ⟨#[]⟩) 1 16 Try.underlying31 hi hz0 hz1 hz2 rfl (by decide) v L.length (strV L) hs hH.row ⟨g, 0, none⟩ L'.length cap (strV L') hx (by simp [strV]) ?_ ?_ (by unfold maxLen; omega) (by omega) hB ?_
    · intro j u hj
      have hj' : j < L'.length := by have := (List.getElem?_eq_some_iff.1 hj).1; simpa [strV] using this
      rw [Addr.add_lit, Nat.zero_add, hc j hj']
      simp only [strV, List.getElem?_map, List.getElem?_eq_getElem hj', Option.map_some] at hj
      rw [← hj]
      simp [List.getElem?_eq_getElem hj']
    · intro u hu
      obtain ⟨_, _, rfl⟩ := List.mem_map.1 hu
      rfl
    · intro v' w' hown hgrow hnil
      have hb : Below B w w' := (Below.refl _ _).grown hgrow hB (fun k e => (hH.row.lt k e).1)
      refine h v' w' ⟨by simpa [strV] using hown, fun e => ?_, hH.below.trans hb, hH.size⟩ hb
      have e1 : L = [] := (List.append_eq_nil_iff.1 e).1
      have e2 : L' = [] := (List.append_eq_nil_iff.1 e).2
      exact hnil.2 ⟨hH.nil e1, by rw [e2]; rfl⟩

theorem Holds.fresh (w : World) : Holds w.heap.size w w (.slice none 0 0) [] := ⟨World.ownsRow_nil _ _ _ _, fun _ => rfl, Below.refl _ _, Nat.le_refl _⟩

/-- Block b of the heap holds the cells C. -/
def Blk (w : World) (b : Nat) (C : Array Value) (t : TypeId) : Prop := w.heap[b]? = some (.cells C t (0, 0))
theorem Blk.below {B : Nat} {w w' : World} {b : Nat} {C : Array Value} {t : TypeId} (h : Blk w b C t) (hb : Below B w w') (hlt : b < B) : Blk w' b C t := (hb.block b hlt).trans h
theorem Blk.lt {w : World} {b : Nat} {C : Array Value} {t : TypeId} (h : Blk w b C t) : b < w.heap.size := (Array.getElem?_eq_some_iff.1 h).1
theorem Blk.alloc {w : World} {b : Nat} {C : Array Value} {t : TypeId} (h : Blk w b C t) (o : Obj) : Blk (w.alloc o) b C t := (Below.heap_alloc w o b h.lt).trans h
theorem Blk.new (w : World) (C : Array Value) (t : TypeId) : Blk (w.alloc (.cells C t)) w.heap.size C t := heap_alloc_new w _
theorem Blk.cell {w : World} {b : Nat} {C : Array Value} {t : TypeId} (h : Blk w b C t) (j : Nat) : w.cell? ⟨b, j, none⟩ = C[j]? := by simp [World.cell?, show w.heap[b]? = _ from h]
theorem Blk.three {w : World} {b : Nat} {x y z : Value} {t : TypeId} (h : Blk w b #[x, y, z] t) : w.cell? ⟨b, 0, none⟩ = some x ∧ w.cell? ⟨b, 1, none⟩ = some y ∧ w.cell? ⟨b, 2, none⟩ = some z :=
  ⟨h.cell 0, h.cell 1, h.cell 2⟩

abbrev shV (s t : ByteArray) (q : Option Addr) : Array Value := #[.string s, .string t, .pointer q]
abbrev shO (s t : ByteArray) (q : Option Addr) : Obj := .cells (shV s t q) 29

/-- The world behind the four ZZshown's. -/
def eight (w : World) (A B C D : Obj) : World := (((((((w.alloc A).alloc A).alloc B).alloc B).alloc C).alloc C).alloc D).alloc D
theorem eight_size (w : World) (A B C D : Obj) : (eight w A B C D).heap.size = w.heap.size + 8 := by simp [eight]
theorem eight_below (w : World) (A B C D : Obj) : Below w.heap.size w (eight w A B C D) := by
  unfold eight
  exact ((((((((Below.refl _ w).alloc (Nat.le_refl _) _).alloc (by simp) _).alloc (by simp; omega) _).alloc (by simp; omega) _).alloc (by simp; omega) _).alloc (by simp; omega) _).alloc (by simp; omega) _).alloc (by simp; omega) _
theorem eight_blk (w : World) (a b c d : Array Value) : Blk (eight w (.cells a 29) (.cells b 29) (.cells c 29) (.cells d 29)) (w.heap.size + 1) a 29 ∧ Blk (eight w (.cells a 29) (.cells b 29) (.cells c 29) (.cells d 29)) (w.heap.size + 1 + 1 + 1) b 29 ∧ Blk (eight w (.cells a 29) (.cells b 29) (.cells c 29) (.cells d 29)) (w.heap.size + 1 + 1 + 1 + 1 + 1) c 29 ∧ Blk (eight w (.cells a 29) (.cells b 29) (.cells c 29) (.cells d 29)) (w.heap.size + 1 + 1 + 1 + 1 + 1 + 1 + 1) d 29 := by
  unfold eight
  refine ⟨?_, ?_, ?_, ?_⟩
  · have h := Blk.new (w.alloc (.cells a 29)) a 29
    simp only [World.size_alloc] at h
    exact (((((h.alloc _).alloc _).alloc _).alloc _).alloc _).alloc _
  · have h := Blk.new (((w.alloc (.cells a 29)).alloc (.cells a 29)).alloc (.cells b 29)) b 29
    simp only [World.size_alloc] at h
    exact (((h.alloc _).alloc _).alloc _).alloc _
  · have h := Blk.new (((((w.alloc (.cells a 29)).alloc (.cells a 29)).alloc (.cells b 29)).alloc (.cells b 29)).alloc (.cells c 29)) c 29
    simp only [World.size_alloc] at h
    exact (h.alloc _).alloc _
  · have h := Blk.new (((((((w.alloc (.cells a 29)).alloc (.cells a 29)).alloc (.cells b 29)).alloc (.cells b 29)).alloc (.cells c 29)).alloc (.cells c 29)).alloc (.cells d 29)) d 29
    simp only [World.size_alloc] at h
    exact h

theorem evs_b (sb : Bool) (pt : ByteArray) (g : Bool) (c : ByteArray) : evs sb (!(pt.toList == pt.toList) && !g) (false && !g) c = if sb then [c] else [] := by simp [evs]
theorem evs_c (ns : ByteArray) (u tb g : Bool) (c : ByteArray) : evs (!(ns.toList == ns.toList) && !u) tb (false && !g) c = if tb then [sTask] else [] := by simp [evs]
theorem evs_d (ns nt : ByteArray) (u db g : Bool) (c : ByteArray) : evs (!(ns.toList == ns.toList) && !u) (!(nt.toList == nt.toList) && !g) db c = if db then [sDrain] else [] := by simp [evs]
theorem len_if (b : Bool) (c : ByteArray) : (if b then [c] else []).length ≤ 1 := by cases b <;> simp
theorem Str.one {B : Nat} {w : World} {v : Value} {x : ByteArray} (h : Str B w v [x]) : ∃ g cap, v = .slice (some ⟨g, 0, none⟩) 1 cap ∧ g < B ∧ w.cell? ⟨g, 0, none⟩ = some (.string x) := by
  rcases h with ⟨h, _⟩ | ⟨g, cap, e, hg, hc⟩
  · cases h
  · exact ⟨g, cap, e, hg, hc 0 (by simp)⟩

theorem PtrNe.below {w w' : World} {rn rp : Option Addr} {β : Bool} (h : PtrNe w rn rp β) (hb : Below w.heap.size w w') : PtrNe w' rn rp β := fun w2 h2 => h w2 (hb.trans (h2.mono hb.size))
theorem NewPtr.below {B : Nat} {w w' : World} {q : Option Addr} (h : NewPtr B w q) (hb : Below w.heap.size w w') : NewPtr B w' q := by
  rcases h with rfl | ⟨g, C, t, rfl, h1, h2⟩
  · exact .inl rfl
  · exact .inr ⟨g, C, t, rfl, h1, (hb.block g (Array.getElem?_eq_some_iff.1 h2).1).trans h2⟩

set_option maxRecDepth 100000 in
set_option maxHeartbeats 4000000 in
theorem main_any (ps pt ns nt : ByteArray) (pd nd : Option Addr) (w : World) (h1 : ps.size ≤ 9223372036854775807) (h2 : pt.size ≤ 9223372036854775807) (h3 : ns.size ≤ 9223372036854775807) (h4 : nt.size ≤ 9223372036854775807) (hp : Dr w pd) (hn : Dr w nd) (hf : ∀ a, pd = some a → w.frozen? a = false) :
    Calls Try.prog 3 #[.string ps, .string pt, .pointer pd, .string ns, .string nt, .pointer nd] w fun e w' => e = .returned (.bool true) ∧ Below w.heap.size w w' := by
  obtain ⟨βe, wq, hrun, hwq⟩ := eql_drains w pd nd hp hn hf
  have hBq : Below w.heap.size w wq := by rcases hwq with rfl | rfl; exact Below.refl _ _; exact (Below.refl _ _).drew
  have hsq : wq.heap.size = w.heap.size := by rcases hwq with rfl | rfl <;> rfl
  clear hwq
  have HSQ : Hid (wq.heap.size = w.heap.size) := hsq
  clear hsq
  go_enter Try.func3, Try.ntmps3
  go_wp2_with fail
  refine (zzBytes_any ps pt ns nt pd nd w h1 h2 h3 h4 hp hn).mono ?_
  rintro e w' ⟨β, rfl, rfl⟩
  cases β with
  | false =>
    go_wp2
    go_ret
    exact ⟨rfl, Below.refl _ _⟩
  | true =>
  by_cases k1 : ps.size ≤ 1048576
  case neg => go_wp2; go_ret; exact ⟨rfl, Below.refl _ _⟩
  by_cases k2 : pt.size ≤ 1048576
  case neg => go_wp2; go_ret; exact ⟨rfl, Below.refl _ _⟩
  by_cases k3 : ns.size ≤ 1048576
  case neg => go_wp2; go_ret; exact ⟨rfl, Below.refl _ _⟩
  by_cases k4 : nt.size ≤ 1048576
  case neg => go_wp2; go_ret; exact ⟨rfl, Below.refl _ _⟩
  go_wp2_with fail
  refine (drainBytes_any pd w hp).mono ?_
  rintro e w' ⟨n1, n1a, n1b, rfl, rfl⟩
  by_cases k5 : n1 ≤ 1048576
  case neg => go_wp2; go_ret; exact ⟨rfl, Below.refl _ _⟩
  go_wp2_with fail
  refine (drainBytes_any nd w hn).mono ?_
  rintro e w' ⟨n2, n2a, n2b, rfl, rfl⟩
  by_cases k6 : n2 ≤ 1048576
  case neg => go_wp2; go_ret; exact ⟨rfl, Below.refl _ _⟩
  go_wp2_with fail
  refine (drainBytes_any pd w hp).mono ?_
  rintro e w' ⟨n3, n3a, n3b, rfl, rfl⟩
  go_wp2_with fail
  refine (drainBytes_any nd w hn).mono ?_
  rintro e w' ⟨n4, n4a, n4b, rfl, rfl⟩
  by_cases k7 : (ps.size : Int) + pt.size + ns.size + nt.size + n3 + n4 ≤ 1048576
  case neg => go_wp2; go_ret; exact ⟨rfl, Below.refl _ _⟩
  go_wp2_with fail
  refine (toDrain_any pd wq (hp.below hBq)).mono ?_
  rintro e w1 ⟨rp, rfl, hrp, hB1⟩
  go_upto_if 87 with fail
  go_cut [15] (fun x wc => ∃ rn, x = .pointer rn ∧ NewPtr wq.heap.size wc rn ∧ NewPtr wq.heap.size wc rp ∧ Below w1.heap.size w1 wc)
  case first =>
    cases βe with
    | true =>
      go_wp2
      go_meet
      case rel => exact ⟨rp, rfl, hrp, hrp, Below.refl _ _⟩
    | false =>
      go_wp2_with fail
      refine (toDrain_any nd w1 (hn.below (hBq.trans (hB1.mono (by rw [HSQ.out]; exact Nat.le_refl _))))).mono ?_
      rintro e w2 ⟨rn, rfl, hrn, hB2⟩
      go_wp2
      go_meet
      case rel => exact ⟨rn, rfl, by rcases hrn with e | ⟨g, C, t, e, g1, g2⟩; exact .inl e; exact .inr ⟨g, C, t, e, Nat.le_trans hB1.size g1, g2⟩, hrp.below hB2, hB2⟩
  case rest =>
    obtain ⟨rn, rfl, hrn, hrp', hB2⟩ := hcut
    have HB : Below w.heap.size w wc := (hBq.trans (hB1.mono (by rw [HSQ.out]; exact Nat.le_refl _))).trans (hB2.mono (by rw [← HSQ.out]; exact hB1.size))
    clear hrun hBq hrp hB1 hB2 hp hn hf HSQ k7 n1a n1b n2a n2b n3a n3b n4a n4b k5 k6
    obtain ⟨β, hne⟩ := ptrNe wc rn rp _ _ hrn hrp'
    clear hrn hrp'
    go_wp2_with (go_at_call 7; refine (shown_any _ _ _ _).mono ?_; rintro e w' ⟨rfl, rfl⟩)
    obtain ⟨b1, b2, b3, b4⟩ := eight_blk wc (shV ps pt rp) (shV ns nt rn) (shV ns pt rp) (shV ns nt rp)
    have B8 := eight_below wc (shO ps pt rp) (shO ns nt rn) (shO ns pt rp) (shO ns nt rp)
    have s8 := eight_size wc (shO ps pt rp) (shO ns nt rn) (shO ns pt rp) (shO ns nt rp)
    unfold eight at b1 b2 b3 b4 B8 s8
    generalize (((((((wc.alloc (shO ps pt rp)).alloc (shO ps pt rp)).alloc (shO ns nt rn)).alloc (shO ns nt rn)).alloc (shO ns pt rp)).alloc (shO ns pt rp)).alloc (shO ns nt rp)).alloc (shO ns nt rp) = W at *
    obtain ⟨u1, hu1⟩ := untold_any ps ns
    obtain ⟨c1, hc1⟩ := change_any ps ns
    obtain ⟨u2, hu2⟩ := untold_any ns ns
    obtain ⟨c2, hc2⟩ := change_any ns ns
    have HU1 : Hid (∀ w, Calls Try.prog 12 #[.string ps, .string ns] w fun e w' => e = .returned (.bool u1) ∧ w = w') := hu1
    have HC1 : Hid (∀ w, Calls Try.prog 13 #[.string ps, .string ns] w fun e w' => e = .returned (.string c1) ∧ w = w') := hc1
    have HU2 : Hid (∀ w, Calls Try.prog 12 #[.string ns, .string ns] w fun e w' => e = .returned (.bool u2) ∧ w = w') := hu2
    have HC2 : Hid (∀ w, Calls Try.prog 13 #[.string ns, .string ns] w fun e w' => e = .returned (.string c2) ∧ w = w') := hc2
    clear hu1 hc1 hu2 hc2
    have N1 : Hid (PtrNe W rn rp β) := hne.below B8
    clear hne
    refine (events8_any ps pt ns nt rp rn u1 β c1 W HU1 HC1 N1).mono ?_
    rintro e wA ⟨vA, rfl, hA⟩
    have bA := hA.below
    have zA := bA.size
    obtain ⟨x10, x11, x12⟩ := (b1.below bA b1.lt).three
    obtain ⟨x30, x31, x32⟩ := (b3.below bA b3.lt).three
    go_wp2_with fail
    refine (events8_any ps pt ns pt rp rp u1 false c1 wA HU1 HC1 (ptrSame wA rp)).mono ?_
    rintro e wB ⟨vB, rfl, hB⟩
    clear x10 x11 x12 x30 x31 x32
    have bB := hB.below
    have zB := bB.size
    obtain ⟨x30, x31, x32⟩ := ((b3.below bA b3.lt).below bB (by have := b3.lt; omega)).three
    obtain ⟨x40, x41, x42⟩ := ((b4.below bA b4.lt).below bB (by have := b4.lt; omega)).three
    go_wp2_with fail
    refine (events8_any ns pt ns nt rp rp u2 false c2 wB HU2 HC2 (ptrSame wB rp)).mono ?_
    rintro e wC ⟨vC, rfl, hC⟩
    clear x30 x31 x32 x40 x41 x42
    have bC := hC.below
    have zC := bC.size
    obtain ⟨x20, x21, x22⟩ := (((b2.below bA b2.lt).below bB (by have := b2.lt; omega)).below bC (by have := b2.lt; omega)).three
    obtain ⟨x40, x41, x42⟩ := (((b4.below bA b4.lt).below bB (by have := b4.lt; omega)).below bC (by have := b4.lt; omega)).three
    have N4 : Hid (PtrNe wC rn rp β) := ((N1.out.below bA).below bB).below bC
    go_wp2_with fail
    refine (events8_any ns nt ns nt rp rn u2 β c2 wC HU2 HC2 N4).mono ?_
    rintro e wD ⟨vD, rfl, hD⟩
    clear x20 x21 x22 x40 x41 x42
    have bD := hD.below
    have zD := bD.size
    have HBD : Below w.heap.size w wD := by
      refine ((((HB.trans (B8.mono HB.size)).trans (bA.mono ?_)).trans (bB.mono ?_)).trans (bC.mono ?_)).trans (bD.mono ?_) <;> (have := HB.size; have := B8.size; omega)
    have sA := ((hA.str.below bB (Nat.le_refl _)).below bC zB).below bD (by omega)
    have sB := (hB.str.below bC (Nat.le_refl _)).below bD zC
    have sC := hC.str.below bD (Nat.le_refl _)
    have sD := hD.str
    rw [evs_b] at sB
    rw [evs_c] at sC
    rw [evs_d] at sD
    have EA : Hid (evs (!(ns.toList == ps.toList) && !u1) (!(nt.toList == pt.toList) && !goneB ns) (β && !goneB ns) c1 = (if (!(ns.toList == ps.toList) && !u1) then [c1] else []) ++ (if (!(nt.toList == pt.toList) && !goneB ns) then [sTask] else []) ++ (if (β && !goneB ns) then [sDrain] else [])) := rfl
    rw [EA.out] at sA
    clear EA
    have lB := len_if (!(ns.toList == ps.toList) && !u1) c1
    have lD := len_if (β && !goneB ns) sDrain
    generalize (if (!(ns.toList == ps.toList) && !u1) then [c1] else []) = LB at *
    generalize (if (β && !goneB ns) then [sDrain] else []) = LD at *
    have zBD : wB.heap.size ≤ wD.heap.size := by omega
    have zCD : wC.heap.size ≤ wD.heap.size := by omega
    have zAD : wA.heap.size ≤ wD.heap.size := by omega
    clear hA hB hC hD bA bB bC bD b1 b2 b3 b4 B8 s8 N1 N4 HU1 HU2 HC1 HC2 HB
    cases ht : (nt.toList == pt.toList) with
    | true =>
      have ht' : (pt.toList == nt.toList) = true := by rw [beq_iff_eq] at ht ⊢; exact ht.symm
      have ELC : (if (!(nt.toList == pt.toList) && !goneB ns) then [sTask] else []) = [] := by rw [ht]; rfl
      rw [ELC] at sC sA
      obtain ⟨aB, kB, hvB⟩ := sB.shape
      obtain ⟨aD, kD, hvD⟩ := sD.shape
      subst hvB hvD
      obtain ⟨aC, kC, hvC⟩ := sC.shape
      subst hvC
      go_wp2_with (first | (at_builtin; refine append_strs rfl (.tmp 133) (.tmp 134) rfl wD.heap.size wD _ _ [] LB rfl rfl (Holds.fresh wD) (sB.mono zBD) (by simp; omega) ?_; intro v1 w1 hS1 bS1) | (at_builtin; refine append_strs rfl (.tmp 136) (.tmp 137) rfl wD.heap.size wD _ _ ([] ++ LB) [] rfl rfl hS1 ((sC.mono zCD).below bS1 (Nat.le_refl _)) (by simp; omega) ?_; intro v2 w2 hS2 bS2) | (at_builtin; refine append_strs rfl (.tmp 139) (.tmp 140) rfl wD.heap.size wD _ _ ([] ++ LB ++ []) LD rfl rfl hS2 ((sD.below bS1 (Nat.le_refl _)).below bS2 (Nat.le_refl _)) (by simp; omega) ?_; intro v3 w3 hS3 bS3) | (go_at_call 9; refine (gone_any _ _).mono ?_; rintro e w' ⟨rfl, rfl⟩))
      have bS := (bS1.trans bS2).trans bS3
      refine (same_any vA v3 _ w3 (by simp; omega) ((sA.mono zAD).below bS (Nat.le_refl _)).strs hS3.str.strs).mono ?_
      rintro e w4 ⟨rfl, hB4⟩
      go_wp2
      go_ret
      exact ⟨rfl, (HBD.trans (bS.mono HBD.size)).trans (hB4.mono (Nat.le_trans HBD.size bS.size))⟩
    | false =>
      have ht' : (pt.toList == nt.toList) = false := by rw [beq_eq_false_iff_ne] at ht ⊢; exact fun k => ht k.symm
      cases hg : goneB ns with
      | true =>
        have ELC : (if (!(nt.toList == pt.toList) && !goneB ns) then [sTask] else []) = [] := by rw [hg]; simp
        rw [ELC] at sC sA
        obtain ⟨aB, kB, hvB⟩ := sB.shape
        obtain ⟨aD, kD, hvD⟩ := sD.shape
        subst hvB hvD
        obtain ⟨aC, kC, hvC⟩ := sC.shape
        subst hvC
        go_wp2_with (first | (at_builtin; refine append_strs rfl (.tmp 133) (.tmp 134) rfl wD.heap.size wD _ _ [] LB rfl rfl (Holds.fresh wD) (sB.mono zBD) (by simp; omega) ?_; intro v1 w1 hS1 bS1) | (at_builtin; refine append_strs rfl (.tmp 136) (.tmp 137) rfl wD.heap.size wD _ _ ([] ++ LB) [] rfl rfl hS1 ((sC.mono zCD).below bS1 (Nat.le_refl _)) (by simp; omega) ?_; intro v2 w2 hS2 bS2) | (at_builtin; refine append_strs rfl (.tmp 139) (.tmp 140) rfl wD.heap.size wD _ _ ([] ++ LB ++ []) LD rfl rfl hS2 ((sD.below bS1 (Nat.le_refl _)).below bS2 (Nat.le_refl _)) (by simp; omega) ?_; intro v3 w3 hS3 bS3) | (go_at_call 9; refine (gone_any _ _).mono ?_; rintro e w' ⟨rfl, rfl⟩))
        have bS := (bS1.trans bS2).trans bS3
        refine (same_any vA v3 _ w3 (by simp; omega) ((sA.mono zAD).below bS (Nat.le_refl _)).strs hS3.str.strs).mono ?_
        rintro e w4 ⟨rfl, hB4⟩
        go_wp2
        go_ret
        exact ⟨rfl, (HBD.trans (bS.mono HBD.size)).trans (hB4.mono (Nat.le_trans HBD.size bS.size))⟩
      | false =>
        have ELC : (if (!(nt.toList == pt.toList) && !goneB ns) then [sTask] else []) = [sTask] := by rw [ht, hg]; rfl
        rw [ELC] at sC sA
        obtain ⟨aB, kB, hvB⟩ := sB.shape
        obtain ⟨aD, kD, hvD⟩ := sD.shape
        subst hvB hvD
        obtain ⟨gC, kC, hvC, hgC, hcC⟩ := sC.one
        subst hvC
        go_wp2_with (first | (at_builtin; refine append_strs rfl (.tmp 133) (.tmp 134) rfl wD.heap.size wD _ _ [] LB rfl rfl (Holds.fresh wD) (sB.mono zBD) (by simp; omega) ?_; intro v1 w1 hS1 bS1) | (at_builtin; refine append_strs rfl (.tmp 136) (.tmp 137) rfl wD.heap.size wD _ _ ([] ++ LB) [sTask] rfl rfl hS1 ((sC.mono zCD).below bS1 (Nat.le_refl _)) (by simp; omega) ?_; intro v2 w2 hS2 bS2) | (at_builtin; refine append_strs rfl (.tmp 139) (.tmp 140) rfl wD.heap.size wD _ _ ([] ++ LB ++ [sTask]) LD rfl rfl hS2 ((sD.below bS1 (Nat.le_refl _)).below bS2 (Nat.le_refl _)) (by simp; omega) ?_; intro v3 w3 hS3 bS3; have hcC3 := (((bS1.trans bS2).trans bS3).cell (p := ⟨gC, 0, none⟩) (by show gC < wD.heap.size; omega)).trans hcC) | (go_at_call 9; refine (gone_any _ _).mono ?_; rintro e w' ⟨rfl, rfl⟩))
        have bS := (bS1.trans bS2).trans bS3
        refine (same_any vA v3 _ w3 (by simp; omega) ((sA.mono zAD).below bS (Nat.le_refl _)).strs hS3.str.strs).mono ?_
        rintro e w4 ⟨rfl, hB4⟩
        go_wp2
        go_ret
        exact ⟨rfl, (HBD.trans (bS.mono HBD.size)).trans (hB4.mono (Nat.le_trans HBD.size bS.size))⟩

end Go.Proofs.Qxb6614331a
