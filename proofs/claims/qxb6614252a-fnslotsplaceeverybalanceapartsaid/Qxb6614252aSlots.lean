import Derived.Test.Qxb6614252aLeaves
namespace Go.Proofs.Qxb6614252a
open Go.RowKit

/-- The record's cells: account, teller, branch, amount, and nine more. -/
abbrev recV (a t b m : Int) (x0 x1 x2 x3 x4 x5 x6 x7 x8 : Value) : Value := .agg #[.int .i64 a, .int .i64 t, .int .i64 b, .int .i64 m, x0, x1, x2, x3, x4, x5, x6, x7, x8]

set_option maxHeartbeats 1000000 in
theorem slots_any (nb a t b m : Int) (x0 x1 x2 x3 x4 x5 x6 x7 x8 : Value) (w : World) (h0 : 0 ≤ nb) (h1 : nb ≤ 20000) (a0 : 0 ≤ a) (a1 : a < 2000000000) (t0 : 0 ≤ t) (t1 : t < 200000) (b0 : 0 ≤ b) (b1 : b < 20000) :
    Calls Try.prog 9 #[.agg #[.int .i64 nb], recV a t b m x0 x1 x2 x3 x4 x5 x6 x7 x8] w fun e w' => e = .returned (.agg #[.int .u32 (a / 509), .int .i64 (a % 509), .int .u32 (apg nb + t / 10), .int .i64 (t % 10), .int .u32 (apg nb + nb + b), .int .i64 0]) ∧ Below w.heap.size w w' := by
  go_enter Try.func9, Try.ntmps9
  go_wp2
  go_region_held3 (fun w' => w'.cell? ⟨w.heap.size, 0, none⟩ = some (.int .i64 nb) ∧ w'.cell? ⟨w.heap.size + 1, 0, none⟩ = some (.int .i64 a) ∧ w'.cell? ⟨w.heap.size + 1, 1, none⟩ = some (.int .i64 t) ∧ w'.cell? ⟨w.heap.size + 1, 2, none⟩ = some (.int .i64 b)) ((refine ⟨?_, ?_, ?_, ?_⟩ <;> go_simp)) (first | (go_at_call 11; refine (account_any nb a _ a0 a1).mono ?_; rintro e w' ⟨rfl, rfl⟩) | (go_at_call 12; refine (teller_any nb t _ h0 h1 t0 t1).mono ?_; rintro e w' ⟨rfl, rfl⟩) | (go_at_call 13; refine (branch_any nb b _ h0 h1 b0 b1).mono ?_; rintro e w' ⟨rfl, rfl⟩))
  go_wp2
  exact bodyPost_ret (v := .agg #[.int .u32 (a / 509), .int .i64 (a % 509), .int .u32 (apg nb + t / 10), .int .i64 (t % 10), .int .u32 (apg nb + nb + b), .int .i64 0]) (by simp [results, Try.results9, go_sem]) rfl ⟨rfl, by repeat (first | exact Below.refl _ _ | refine Below.drew ?_ | refine Below.alloc ?_ (by simp <;> omega) _)⟩


theorem bcell {W w1 : World} (hb : Below W.heap.size W w1) : (∀ b o, b < W.heap.size → w1.cell? ⟨b, o, none⟩ = W.cell? ⟨b, o, none⟩) ∧ (∀ b o, b < W.heap.size → w1.frozen? ⟨b, o, none⟩ = W.frozen? ⟨b, o, none⟩) :=
  ⟨fun b o h => hb.cell (p := ⟨b, o, none⟩) h, fun b o h => hb.frozen (p := ⟨b, o, none⟩) h⟩

theorem six {w w1 : World} {o0 o1 o2 o5 : Obj} {C3 C4 : Array Value} {t3 t4 : TypeId}
    (hb : Below ((((((w.alloc o0).alloc o1).alloc o2).alloc (.cells C3 t3)).alloc (.cells C4 t4)).alloc o5).heap.size ((((((w.alloc o0).alloc o1).alloc o2).alloc (.cells C3 t3)).alloc (.cells C4 t4)).alloc o5) w1) :
    w1.heap[w.heap.size + 1 + 1 + 1]? = some (.cells C3 t3 (0, 0)) ∧ w1.heap[w.heap.size + 1 + 1 + 1 + 1]? = some (.cells C4 t4 (0, 0)) ∧ Below w.heap.size w w1 ∧ w.heap.size + 6 ≤ w1.heap.size := by
  have hs := hb.size
  simp only [World.size_alloc] at hs
  refine ⟨?_, ?_, ?_, by omega⟩
  · rw [hb.block _ (by simp only [World.size_alloc]; omega)]
    rw [Below.heap_alloc _ _ _ (by simp only [World.size_alloc]; omega), Below.heap_alloc _ _ _ (by simp only [World.size_alloc]; omega)]
    have := heap_alloc_new (((w.alloc o0).alloc o1).alloc o2) (.cells C3 t3)
    simpa only [World.size_alloc] using this
  · rw [hb.block _ (by simp only [World.size_alloc]; omega)]
    rw [Below.heap_alloc _ _ _ (by simp only [World.size_alloc]; omega)]
    have := heap_alloc_new ((((w.alloc o0).alloc o1).alloc o2).alloc (.cells C3 t3)) (.cells C4 t4)
    simpa only [World.size_alloc] using this
  · refine Below.trans ?_ (hb.mono (by simp only [World.size_alloc]; omega))
    exact ((((((Below.refl _ w).alloc (Nat.le_refl _) _).alloc (by simp only [World.size_alloc]; omega) _).alloc (by simp only [World.size_alloc]; omega) _).alloc (by simp only [World.size_alloc]; omega) _).alloc (by simp only [World.size_alloc]; omega) _).alloc (by simp only [World.size_alloc]; omega) _

theorem cell_blk {w : World} {b : Nat} {C : Array Value} {t : TypeId} (h : w.heap[b]? = some (.cells C t (0, 0))) (j : Nat) : w.cell? ⟨b, j, none⟩ = C[j]? ∧ w.frozen? ⟨b, j, none⟩ = false := by
  constructor
  · simp [World.cell?, h]
  · simp [World.frozen?, h]

set_option maxHeartbeats 1000000 in
theorem zzslots_any (nb a t b m : Int) (v0 v1 v2 k0 k1 k2 c0 c1 c2 : Int) (w : World) (h0 : 0 ≤ nb) (h1 : nb ≤ 20000) (a0 : 0 ≤ a) (a1 : a < 2000000000) (t0 : 0 ≤ t) (t1 : t < 200000) (b0 : 0 ≤ b) (b1 : b < 20000) :
    Calls Try.prog 6 #[.int .i64 nb, .int .i64 a, .int .i64 t, .int .i64 b, .int .i64 m, .agg #[.int .u64 v0, .int .u64 v1, .int .u64 v2], .agg #[.int .u64 k0, .int .u64 k1, .int .u64 k2], .agg #[.int .i64 c0, .int .i64 c1, .int .i64 c2]] w
      fun e w' => e = .returned (.tuple #[.agg #[.int .u32 (a / 509), .int .u32 (apg nb + t / 10), .int .u32 (apg nb + nb + b)], .agg #[.int .i64 (a % 509), .int .i64 (t % 10), .int .i64 0]]) ∧ Below w.heap.size w w' := by
  go_enter Try.func6, Try.ntmps6
  go_wp2_with fail
  refine (slots_any nb a t b m _ _ _ _ _ _ _ _ _ _ h0 h1 a0 a1 t0 t1 b0 b1).mono ?_
  rintro e w1 ⟨rfl, hb⟩
  obtain ⟨q3, q4, hB, hz⟩ := six hb
  clear hb
  go_wp2
  have q3' := (Below.heap_alloc w1 (.cells #[.int .u32 (a / 509), .int .i64 (a % 509), .int .u32 (apg nb + t / 10), .int .i64 (t % 10), .int .u32 (apg nb + nb + b), .int .i64 0] 44) (w.heap.size + 1 + 1 + 1) (by omega)).trans q3
  have q4' := (Below.heap_alloc w1 (.cells #[.int .u32 (a / 509), .int .i64 (a % 509), .int .u32 (apg nb + t / 10), .int .i64 (t % 10), .int .u32 (apg nb + nb + b), .int .i64 0] 44) (w.heap.size + 1 + 1 + 1 + 1) (by omega)).trans q4
  have q5' := heap_alloc_new w1 (.cells #[.int .u32 (a / 509), .int .i64 (a % 509), .int .u32 (apg nb + t / 10), .int .i64 (t % 10), .int .u32 (apg nb + nb + b), .int .i64 0] 44)
  have hB2 : Below w.heap.size w (w1.alloc (.cells #[.int .u32 (a / 509), .int .i64 (a % 509), .int .u32 (apg nb + t / 10), .int .i64 (t % 10), .int .u32 (apg nb + nb + b), .int .i64 0] 44)) := hB.alloc (by omega) _
  generalize w1.alloc (.cells #[.int .u32 (a / 509), .int .i64 (a % 509), .int .u32 (apg nb + t / 10), .int .i64 (t % 10), .int .u32 (apg nb + nb + b), .int .i64 0] 44) = W at *
  have n0 : w1.heap.size ≠ w.heap.size + 1 + 1 + 1 := by omega
  have n1 : w1.heap.size ≠ w.heap.size + 1 + 1 + 1 + 1 := by omega
  generalize w1.heap.size = B5 at *
  have x0 := (cell_blk q3' 0).1
  have x1 := (cell_blk q3' 1).1
  have x2 := (cell_blk q3' 2).1
  have y0 := (cell_blk q4' 0).1
  have y1 := (cell_blk q4' 1).1
  have y2 := (cell_blk q4' 2).1
  have fx0 := (cell_blk q3' 0).2
  have fx1 := (cell_blk q3' 1).2
  have fx2 := (cell_blk q3' 2).2
  have fy0 := (cell_blk q4' 0).2
  have fy1 := (cell_blk q4' 1).2
  have fy2 := (cell_blk q4' 2).2
  have z0 := (cell_blk q5' 0).1
  have z1 := (cell_blk q5' 1).1
  have z2 := (cell_blk q5' 2).1
  have z3 := (cell_blk q5' 3).1
  have z4 := (cell_blk q5' 4).1
  have z5 := (cell_blk q5' 5).1
  simp only [List.getElem?_toArray, List.getElem?_cons_zero, List.getElem?_cons_succ] at x0 x1 x2 y0 y1 y2 z0 z1 z2 z3 z4 z5
  clear q3 q4 q3' q4' q5' hz hB
  go_region_held3 (fun w' => w'.cell? ⟨B5, 0, none⟩ = some (.int .u32 (a / 509)) ∧ w'.cell? ⟨B5, 1, none⟩ = some (.int .i64 (a % 509)) ∧ w'.cell? ⟨B5, 2, none⟩ = some (.int .u32 (apg nb + t / 10)) ∧ w'.cell? ⟨B5, 3, none⟩ = some (.int .i64 (t % 10)) ∧ w'.cell? ⟨B5, 4, none⟩ = some (.int .u32 (apg nb + nb + b)) ∧ w'.cell? ⟨B5, 5, none⟩ = some (.int .i64 0)) ((refine ⟨?_, ?_, ?_, ?_, ?_, ?_⟩ <;> go_simp)) (fail)
  go_wp2
  exact bodyPost_ret (v := .tuple #[.agg #[.int .u32 (a / 509), .int .u32 (apg nb + t / 10), .int .u32 (apg nb + nb + b)], .agg #[.int .i64 (a % 509), .int .i64 (t % 10), .int .i64 0]]) (by simp [results, Try.results6, go_sem, x0, x1, x2, y0, y1, y2]) rfl ⟨rfl, ((((((hB2.setCell (p := ⟨w.heap.size + 1 + 1 + 1, 0, none⟩) (by simp; omega) _).setCell (p := ⟨w.heap.size + 1 + 1 + 1, 1, none⟩) (by simp; omega) _).setCell (p := ⟨w.heap.size + 1 + 1 + 1, 2, none⟩) (by simp; omega) _).setCell (p := ⟨w.heap.size + 1 + 1 + 1 + 1, 0, none⟩) (by simp; omega) _).setCell (p := ⟨w.heap.size + 1 + 1 + 1 + 1, 1, none⟩) (by simp; omega) _).setCell (p := ⟨w.heap.size + 1 + 1 + 1 + 1, 2, none⟩) (by simp; omega) _).drew⟩

end Go.Proofs.Qxb6614252a
