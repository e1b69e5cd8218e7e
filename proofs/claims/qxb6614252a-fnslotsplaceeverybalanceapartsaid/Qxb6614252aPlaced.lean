import Derived.Test.Qxb6614252aSlots
namespace Go.Proofs.Qxb6614252a
open Go.RowKit

def RecIn (nb a t b : Int) : Prop := 1 ≤ nb ∧ nb ≤ 20000 ∧ 0 ≤ a ∧ a < nb * 100000 ∧ 0 ≤ t ∧ t < nb * 10 ∧ 0 ≤ b ∧ b < nb

set_option maxHeartbeats 400000 in
theorem recIn_yes (nb a t b : Int) (w : World) (h : RecIn nb a t b) :
    Calls Try.prog 5 #[.int .i64 nb, .int .i64 a, .int .i64 t, .int .i64 b] w fun e w' => e = .returned (.bool true) ∧ w = w' := by
  obtain ⟨h1, h2, h3, h4, h5, h6, h7, h8⟩ := h
  go_enter Try.func5, Try.ntmps5
  go_wp2
  go_ret
  exact ⟨rfl, rfl⟩

set_option maxHeartbeats 1000000 in
theorem recIn_no (nb a t b : Int) (w : World) (h : ¬ RecIn nb a t b) :
    Calls Try.prog 5 #[.int .i64 nb, .int .i64 a, .int .i64 t, .int .i64 b] w fun e w' => e = .returned (.bool false) ∧ w = w' := by
  unfold RecIn at h
  by_cases h1 : nb < 1
  · clear h; go_enter Try.func5, Try.ntmps5; go_wp2; go_ret; exact ⟨rfl, rfl⟩
  by_cases h2 : 20000 < nb
  · clear h; go_enter Try.func5, Try.ntmps5; go_wp2; go_ret; exact ⟨rfl, rfl⟩
  by_cases h3 : a < 0
  · clear h; go_enter Try.func5, Try.ntmps5; go_wp2; go_ret; exact ⟨rfl, rfl⟩
  by_cases h4 : nb * 100000 ≤ a
  · clear h; go_enter Try.func5, Try.ntmps5; go_wp2; go_ret; exact ⟨rfl, rfl⟩
  by_cases h5 : t < 0
  · clear h; go_enter Try.func5, Try.ntmps5; go_wp2; go_ret; exact ⟨rfl, rfl⟩
  by_cases h6 : nb * 10 ≤ t
  · clear h; go_enter Try.func5, Try.ntmps5; go_wp2; go_ret; exact ⟨rfl, rfl⟩
  by_cases h7 : b < 0
  · clear h; go_enter Try.func5, Try.ntmps5; go_wp2; go_ret; exact ⟨rfl, rfl⟩
  by_cases h8 : nb ≤ b
  · clear h; go_enter Try.func5, Try.ntmps5; go_wp2; go_ret; exact ⟨rfl, rfl⟩
  · exact absurd ⟨by omega, by omega, by omega, by omega, by omega, by omega, by omega, by omega⟩ h

theorem apg_said (nb : Int) : nb * 100000 ≤ apg nb * 509 ∧ (apg nb - 1) * 509 < nb * 100000 := by unfold apg; omega

theorem two {w w1 : World} {C0 C1 : Array Value} {t0 t1 : TypeId}
    (hb : Below ((w.alloc (.cells C0 t0)).alloc (.cells C1 t1)).heap.size ((w.alloc (.cells C0 t0)).alloc (.cells C1 t1)) w1) :
    w1.heap[w.heap.size]? = some (.cells C0 t0 (0, 0)) ∧ w1.heap[w.heap.size + 1]? = some (.cells C1 t1 (0, 0)) ∧ Below w.heap.size w w1 ∧ w.heap.size + 2 ≤ w1.heap.size := by
  have hs := hb.size
  simp only [World.size_alloc] at hs
  refine ⟨?_, ?_, ?_, by omega⟩
  · rw [hb.block _ (by simp only [World.size_alloc]; omega)]
    rw [Below.heap_alloc _ _ _ (by simp only [World.size_alloc]; omega)]
    exact heap_alloc_new w (.cells C0 t0)
  · rw [hb.block _ (by simp only [World.size_alloc]; omega)]
    have := heap_alloc_new (w.alloc (.cells C0 t0)) (.cells C1 t1)
    simpa only [World.size_alloc] using this
  · refine Below.trans ?_ (hb.mono (by simp only [World.size_alloc]; omega))
    exact ((Below.refl _ w).alloc (Nat.le_refl _) _).alloc (by simp only [World.size_alloc]; omega) _

set_option maxRecDepth 100000 in
set_option maxHeartbeats 2000000 in
theorem placed_any (nb a t b p0 i0 p1 i1 p2 : Int) (w : World) (h : RecIn nb a t b)
    (e0 : p0 * 509 + i0 ≤ a) (e0' : a ≤ p0 * 509 + i0) (u0 : 0 ≤ i0) (u0' : i0 < 509) (z0 : 0 ≤ p0)
    (e1 : (p1 - apg nb) * 10 + i1 ≤ t) (e1' : t ≤ (p1 - apg nb) * 10 + i1) (u1 : 0 ≤ i1) (u1' : i1 < 10)
    (e2 : p2 ≤ apg nb + nb + b) (e2' : apg nb + nb + b ≤ p2) :
    Calls Try.prog 7 #[.int .i64 nb, .agg #[.int .u32 p0, .int .u32 p1, .int .u32 p2], .agg #[.int .i64 i0, .int .i64 i1, .int .i64 0], .int .i64 a, .int .i64 t, .int .i64 b] w
      fun e w' => e = .returned (.bool true) ∧ Below w.heap.size w w' := by
  obtain ⟨h1, h2, h3, h4, h5, h6, h7, h8⟩ := h
  have ha := apg_bd nb (by omega) h2
  have hs := apg_said nb
  go_enter Try.func7, Try.ntmps7
  go_wp2_with fail
  refine (pages_any nb _ (by omega) h2).mono ?_
  rintro e w1 ⟨rfl, hb⟩
  obtain ⟨q0, q1, hB, hz⟩ := two hb
  clear hb
  generalize apg nb = A at *
  have x0 := (cell_blk q0 0).1
  have x1 := (cell_blk q0 1).1
  have x2 := (cell_blk q0 2).1
  have y0 := (cell_blk q1 0).1
  have y1 := (cell_blk q1 1).1
  have y2 := (cell_blk q1 2).1
  simp only [List.getElem?_toArray, List.getElem?_cons_zero, List.getElem?_cons_succ] at x0 x1 x2 y0 y1 y2
  have HB : Hid (Below w.heap.size w w1) := hB
  clear q0 q1 hB
  have n0 : (p0 * 509 + i0 != a) = false := by rw [bne_eq_false_iff_eq]; omega
  have n1 : ((p1 - A) * 10 + i1 != t) = false := by rw [bne_eq_false_iff_eq]; omega
  have n2 : (p2 != A + 2 * nb - nb + b) = false := by rw [bne_eq_false_iff_eq]; omega
  go_wp2
  refine wp_loop_rounds 4 ?_
  rw [rounds_succ]
  go_wp2
  rw [rounds_succ]
  go_wp2
  rw [rounds_succ]
  go_wp2
  rw [rounds_succ]
  go_wp2
  go_ret
  exact ⟨rfl, HB.out⟩

end Go.Proofs.Qxb6614252a
