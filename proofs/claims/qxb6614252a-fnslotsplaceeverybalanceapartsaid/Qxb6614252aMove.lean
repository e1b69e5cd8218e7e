import Derived.Test.Qxb6614252aPlaced
namespace Go.Proofs.Qxb6614252a
open Go.RowKit

/-- Block b of the heap holds the cells C. -/
def Blk (w : World) (b : Nat) (C : Array Value) (t : TypeId) : Prop := w.heap[b]? = some (.cells C t (0, 0))
theorem Blk.below {B : Nat} {w w' : World} {b : Nat} {C : Array Value} {t : TypeId} (h : Blk w b C t) (hb : Below B w w') (hlt : b < B) : Blk w' b C t := (hb.block b hlt).trans h
theorem Blk.lt {w : World} {b : Nat} {C : Array Value} {t : TypeId} (h : Blk w b C t) : b < w.heap.size := (Array.getElem?_eq_some_iff.1 h).1
theorem Blk.alloc {w : World} {b : Nat} {C : Array Value} {t : TypeId} (h : Blk w b C t) (o : Obj) : Blk (w.alloc o) b C t := (Below.heap_alloc w o b h.lt).trans h
theorem Blk.new (w : World) (C : Array Value) (t : TypeId) : Blk (w.alloc (.cells C t)) w.heap.size C t := heap_alloc_new w _
theorem Blk.three {w : World} {b : Nat} {x y z : Value} {t : TypeId} (h : Blk w b #[x, y, z] t) : w.cell? ⟨b, 0, none⟩ = some x ∧ w.cell? ⟨b, 1, none⟩ = some y ∧ w.cell? ⟨b, 2, none⟩ = some z :=
  ⟨(cell_blk h 0).1, (cell_blk h 1).1, (cell_blk h 2).1⟩

/-- Behind a call in a world with two new blocks. -/
theorem twoB {w w1 : World} {C0 C1 : Array Value} {t0 t1 : TypeId}
    (hb : Below ((w.alloc (.cells C0 t0)).alloc (.cells C1 t1)).heap.size ((w.alloc (.cells C0 t0)).alloc (.cells C1 t1)) w1) :
    Blk w1 w.heap.size C0 t0 ∧ Blk w1 (w.heap.size + 1) C1 t1 ∧ Below w.heap.size w w1 ∧ w.heap.size + 2 ≤ w1.heap.size := two hb
/-- .. three new blocks. -/
theorem threeB {w w1 : World} {C0 C1 C2 : Array Value} {t0 t1 t2 : TypeId}
    (hb : Below (((w.alloc (.cells C0 t0)).alloc (.cells C1 t1)).alloc (.cells C2 t2)).heap.size (((w.alloc (.cells C0 t0)).alloc (.cells C1 t1)).alloc (.cells C2 t2)) w1) :
    Blk w1 w.heap.size C0 t0 ∧ Blk w1 (w.heap.size + 1) C1 t1 ∧ Blk w1 (w.heap.size + 1 + 1) C2 t2 ∧ Below w.heap.size w w1 ∧ w.heap.size + 3 ≤ w1.heap.size := by
  have hs := hb.size
  have q0 := (((Blk.new w C0 t0).alloc (.cells C1 t1)).alloc (.cells C2 t2)).below hb (by simp only [World.size_alloc]; omega)
  have q1 := ((Blk.new (w.alloc (.cells C0 t0)) C1 t1).alloc (.cells C2 t2)).below hb (by simp only [World.size_alloc]; omega)
  have q2 := (Blk.new ((w.alloc (.cells C0 t0)).alloc (.cells C1 t1)) C2 t2).below hb (by simp only [World.size_alloc]; omega)
  simp only [World.size_alloc] at hs q1 q2
  exact ⟨q0, q1, q2, Below.trans ((((Below.refl _ w).alloc (Nat.le_refl _) _).alloc (by simp only [World.size_alloc]; omega) _).alloc (by simp only [World.size_alloc]; omega) _) (hb.mono (by simp only [World.size_alloc]; omega)), by omega⟩

abbrev arr3 (k : IntKind) (x y z : Int) : Array Value := #[.int k x, .int k y, .int k z]

theorem apg_mono (s l : Int) (h : s ≤ l) : apg s ≤ apg l := by unfold apg; omega

set_option maxRecDepth 100000 in
set_option maxHeartbeats 2000000 in
theorem move_main (s l a t b m v0 v1 v2 k0 k1 k2 c0 c1 c2 : Int) (w : World) (hs : 1 ≤ s) (hl : s ≤ l) (hl2 : l ≤ 20000) (h : RecIn s a t b) :
    Calls Try.prog 4 #[.int .i64 s, .int .i64 l, .int .i64 a, .int .i64 t, .int .i64 b, .int .i64 m, .agg (arr3 .u64 v0 v1 v2), .agg (arr3 .u64 k0 k1 k2), .agg (arr3 .i64 c0 c1 c2)] w
      fun e w' => e = .returned (.bool true) ∧ Below w.heap.size w w' := by
  have h' := h
  obtain ⟨h1, h2, h3, h4, h5, h6, h7, h8⟩ := h'
  have hL : RecIn l a t b := ⟨by omega, hl2, h3, by omega, h5, by omega, h7, by omega⟩
  have As := apg_bd s (by omega) h2
  have Al := apg_bd l (by omega) hl2
  have Am := apg_mono s l hl
  go_enter Try.func4, Try.ntmps4
  go_wp2_with fail
  refine (recIn_yes s a t b _ h).mono ?_
  rintro e w' ⟨rfl, rfl⟩
  go_wp2_with fail
  refine (zzslots_any s a t b m v0 v1 v2 k0 k1 k2 c0 c1 c2 _ (by omega) h2 h3 (by omega) h5 (by omega) h7 (by omega)).mono ?_
  rintro e w1 ⟨rfl, hb⟩
  obtain ⟨p0, p1, p2, hB1, hz1⟩ := threeB hb
  clear hb
  obtain ⟨x0, x1, x2⟩ := p0.three
  obtain ⟨y0, y1, y2⟩ := p1.three
  obtain ⟨z0, z1, z2⟩ := p2.three
  have l0 : w.heap.size < w1.heap.size := by omega
  have l1 : w.heap.size + 1 < w1.heap.size := by omega
  have l2 : w.heap.size + 1 + 1 < w1.heap.size := by omega
  have m0 : w.heap.size < w1.heap.size + 1 := by omega
  have m1 : w.heap.size + 1 < w1.heap.size + 1 := by omega
  have m2 : w.heap.size + 1 + 1 < w1.heap.size + 1 := by omega
  go_wp2_with fail
  refine (zzslots_any l a t b m v0 v1 v2 k0 k1 k2 c0 c1 c2 _ (by omega) hl2 h3 (by omega) h5 (by omega) h7 (by omega)).mono ?_
  rintro e w2 ⟨rfl, hb⟩
  obtain ⟨q0, q1, hB2, hz2⟩ := twoB hb
  clear hb x0 x1 x2 y0 y1 y2 z0 z1 z2 p0 p1 p2 l0 l1 l2 m0 m1 m2
  go_wp2_with fail
  refine (placed_any l a t b (a / 509) (a % 509) (apg l + t / 10) (t % 10) (apg l + l + b) _ hL (by omega) (by omega) (by omega) (by omega) (by omega) (by omega) (by omega) (by omega) (by omega) (by omega) (by omega)).mono ?_
  rintro e w3 ⟨rfl, hb⟩
  obtain ⟨r0, r1, hB3, hz3⟩ := twoB hb
  clear hb
  have q0' := q0.below hB3 (by omega)
  have q1' := q1.below hB3 (by omega)
  clear q0 q1
  go_wp2_with fail
  refine (pages_any s _ (by omega) h2).mono ?_
  rintro e w4 ⟨rfl, hB4⟩
  go_wp2_with fail
  refine (pages_any l _ (by omega) hl2).mono ?_
  rintro e w5 ⟨rfl, hB5⟩
  have hz4 := hB4.size
  obtain ⟨q00, q01, q02⟩ := ((q0'.below hB4 (by omega)).below hB5 (by omega)).three
  obtain ⟨q10, q11, q12⟩ := ((q1'.below hB4 (by omega)).below hB5 (by omega)).three
  obtain ⟨r00, r01, r02⟩ := ((r0.below hB4 (by omega)).below hB5 (by omega)).three
  obtain ⟨r10, r11, r12⟩ := ((r1.below hB4 (by omega)).below hB5 (by omega)).three
  have HB : Hid (Below w.heap.size w w5) := (((hB1.trans (hB2.mono (by omega))).trans (hB3.mono (by omega))).trans (hB4.mono (by omega))).trans (hB5.mono (by omega))
  clear q0' q1' r0 r1 hB1 hB2 hB3 hB4 hB5
  generalize apg s = A1 at *
  generalize apg l = A2 at *
  have T0 : 0 ≤ t / 10 ∧ t / 10 ≤ 20000 := by omega
  generalize t / 10 = q at *
  go_wp2
  go_ret
  exact ⟨rfl, HB.out⟩


theorem threeAlloc (w : World) (o0 o1 o2 : Obj) : Below w.heap.size w (((w.alloc o0).alloc o1).alloc o2) :=
  (((Below.refl _ w).alloc (Nat.le_refl _) _).alloc (by simp only [World.size_alloc]; omega) _).alloc (by simp only [World.size_alloc]; omega) _

set_option maxRecDepth 100000 in
set_option maxHeartbeats 2000000 in
/-- The inputs that the law lets pass. -/
theorem move_out (s l a t b m v0 v1 v2 k0 k1 k2 c0 c1 c2 : Int) (w : World) (h : ¬ (1 ≤ s ∧ s ≤ l ∧ l ≤ 20000 ∧ RecIn s a t b)) :
    Calls Try.prog 4 #[.int .i64 s, .int .i64 l, .int .i64 a, .int .i64 t, .int .i64 b, .int .i64 m, .agg (arr3 .u64 v0 v1 v2), .agg (arr3 .u64 k0 k1 k2), .agg (arr3 .i64 c0 c1 c2)] w
      fun e w' => e = .returned (.bool true) ∧ Below w.heap.size w w' := by
  by_cases h1 : s < 1
  · clear h; go_enter Try.func4, Try.ntmps4; go_wp2; go_ret; exact ⟨rfl, threeAlloc _ _ _ _⟩
  by_cases h2 : l < s
  · clear h; go_enter Try.func4, Try.ntmps4; go_wp2; go_ret; exact ⟨rfl, threeAlloc _ _ _ _⟩
  by_cases h3 : 20000 < l
  · clear h; go_enter Try.func4, Try.ntmps4; go_wp2; go_ret; exact ⟨rfl, threeAlloc _ _ _ _⟩
  have hR : ¬ RecIn s a t b := fun k => h ⟨by omega, by omega, by omega, k⟩
  clear h
  go_enter Try.func4, Try.ntmps4
  go_wp2_with fail
  refine (recIn_no s a t b _ hR).mono ?_
  rintro e w' ⟨rfl, rfl⟩
  go_wp2
  go_ret
  exact ⟨rfl, threeAlloc _ _ _ _⟩

end Go.Proofs.Qxb6614252a
