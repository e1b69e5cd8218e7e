import Derived.Test.Qxb6608833aZZSort
import Derived.Laws.ResultCell
namespace Go.Proofs.Qxb6608833a
open Go.RowKit

theorem blk14 {w : World} {g : Nat} (h : w.heap[g]? = some (.cells #[.string ⟨#[]⟩, .string ⟨#[]⟩, .int .u8 0, .int .u8 0, .pointer none, .string ⟨#[]⟩, .int .u64 0, .int .i64 0, .pointer none, .int .i64 0, .int .u64 0, .int .i64 0, .pointer none, .string ⟨#[]⟩] 58)) : w.cell? ⟨g, 0, none⟩ = some (.string ⟨#[]⟩) ∧ w.cell? ⟨g, 1, none⟩ = some (.string ⟨#[]⟩) ∧ w.cell? ⟨g, 2, none⟩ = some (.int .u8 0) ∧ w.cell? ⟨g, 3, none⟩ = some (.int .u8 0) ∧ w.cell? ⟨g, 4, none⟩ = some (.pointer none) ∧ w.cell? ⟨g, 5, none⟩ = some (.string ⟨#[]⟩) ∧ w.cell? ⟨g, 6, none⟩ = some (.int .u64 0) ∧ w.cell? ⟨g, 7, none⟩ = some (.int .i64 0) ∧ w.cell? ⟨g, 8, none⟩ = some (.pointer none) ∧ w.cell? ⟨g, 9, none⟩ = some (.int .i64 0) ∧ w.cell? ⟨g, 10, none⟩ = some (.int .u64 0) ∧ w.cell? ⟨g, 11, none⟩ = some (.int .i64 0) ∧ w.cell? ⟨g, 12, none⟩ = some (.pointer none) ∧ w.cell? ⟨g, 13, none⟩ = some (.string ⟨#[]⟩) ∧ w.frozen? ⟨g, 0, none⟩ = false ∧ w.frozen? ⟨g, 1, none⟩ = false ∧ w.frozen? ⟨g, 2, none⟩ = false ∧ w.frozen? ⟨g, 3, none⟩ = false ∧ w.frozen? ⟨g, 4, none⟩ = false ∧ w.frozen? ⟨g, 5, none⟩ = false ∧ w.frozen? ⟨g, 6, none⟩ = false ∧ w.frozen? ⟨g, 7, none⟩ = false ∧ w.frozen? ⟨g, 8, none⟩ = false ∧ w.frozen? ⟨g, 9, none⟩ = false ∧ w.frozen? ⟨g, 10, none⟩ = false ∧ w.frozen? ⟨g, 11, none⟩ = false ∧ w.frozen? ⟨g, 12, none⟩ = false ∧ w.frozen? ⟨g, 13, none⟩ = false := by
  refine ⟨cell_of_row w g 0 _ 58 (0, 0) h, cell_of_row w g 1 _ 58 (0, 0) h, cell_of_row w g 2 _ 58 (0, 0) h, cell_of_row w g 3 _ 58 (0, 0) h, cell_of_row w g 4 _ 58 (0, 0) h, cell_of_row w g 5 _ 58 (0, 0) h, cell_of_row w g 6 _ 58 (0, 0) h, cell_of_row w g 7 _ 58 (0, 0) h, cell_of_row w g 8 _ 58 (0, 0) h, cell_of_row w g 9 _ 58 (0, 0) h, cell_of_row w g 10 _ 58 (0, 0) h, cell_of_row w g 11 _ 58 (0, 0) h, cell_of_row w g 12 _ 58 (0, 0) h, cell_of_row w g 13 _ 58 (0, 0) h, frozen_of_row w g 0 _ 58 h, frozen_of_row w g 1 _ 58 h, frozen_of_row w g 2 _ 58 h, frozen_of_row w g 3 _ 58 h, frozen_of_row w g 4 _ 58 h, frozen_of_row w g 5 _ 58 h, frozen_of_row w g 6 _ 58 h, frozen_of_row w g 7 _ 58 h, frozen_of_row w g 8 _ 58 h, frozen_of_row w g 9 _ 58 h, frozen_of_row w g 10 _ 58 h, frozen_of_row w g 11 _ 58 h, frozen_of_row w g 12 _ 58 h, frozen_of_row w g 13 _ 58 h⟩

theorem blkS {w : World} {g : Nat} {p : Key} (h : w.heap[g]? = some (.cells #[.string p.1, .string p.2, .int .u8 0, .int .u8 0, .pointer none, .string ⟨#[]⟩, .int .u64 0, .int .i64 0, .pointer none, .int .i64 0, .int .u64 0, .int .i64 0, .pointer none, .string ⟨#[]⟩] 58 (0, 0))) : w.cell? ⟨g, 0, none⟩ = some (.string p.1) ∧ w.cell? ⟨g, 1, none⟩ = some (.string p.2) ∧ w.cell? ⟨g, 2, none⟩ = some (.int .u8 0) ∧ w.cell? ⟨g, 3, none⟩ = some (.int .u8 0) ∧ w.cell? ⟨g, 4, none⟩ = some (.pointer none) ∧ w.cell? ⟨g, 5, none⟩ = some (.string ⟨#[]⟩) ∧ w.cell? ⟨g, 6, none⟩ = some (.int .u64 0) ∧ w.cell? ⟨g, 7, none⟩ = some (.int .i64 0) ∧ w.cell? ⟨g, 8, none⟩ = some (.pointer none) ∧ w.cell? ⟨g, 9, none⟩ = some (.int .i64 0) ∧ w.cell? ⟨g, 10, none⟩ = some (.int .u64 0) ∧ w.cell? ⟨g, 11, none⟩ = some (.int .i64 0) ∧ w.cell? ⟨g, 12, none⟩ = some (.pointer none) ∧ w.cell? ⟨g, 13, none⟩ = some (.string ⟨#[]⟩) := by
  exact ⟨cell_of_row w g 0 _ 58 (0, 0) h, cell_of_row w g 1 _ 58 (0, 0) h, cell_of_row w g 2 _ 58 (0, 0) h, cell_of_row w g 3 _ 58 (0, 0) h, cell_of_row w g 4 _ 58 (0, 0) h, cell_of_row w g 5 _ 58 (0, 0) h, cell_of_row w g 6 _ 58 (0, 0) h, cell_of_row w g 7 _ 58 (0, 0) h, cell_of_row w g 8 _ 58 (0, 0) h, cell_of_row w g 9 _ 58 (0, 0) h, cell_of_row w g 10 _ 58 (0, 0) h, cell_of_row w g 11 _ 58 (0, 0) h, cell_of_row w g 12 _ 58 (0, 0) h, cell_of_row w g 13 _ 58 (0, 0) h⟩

set_option linter.unusedSimpArgs false in
set_option maxHeartbeats 1000000 in
theorem set14 {w : World} {g : Nat} (p : Key) (h : w.heap[g]? = some (.cells #[.string ⟨#[]⟩, .string ⟨#[]⟩, .int .u8 0, .int .u8 0, .pointer none, .string ⟨#[]⟩, .int .u64 0, .int .i64 0, .pointer none, .int .i64 0, .int .u64 0, .int .i64 0, .pointer none, .string ⟨#[]⟩] 58)) : ((((((((((((((w.setCell ⟨g, 0, none⟩ (.string p.1)).setCell ⟨g, 1, none⟩ (.string p.2)).setCell ⟨g, 2, none⟩ (.int .u8 0)).setCell ⟨g, 3, none⟩ (.int .u8 0)).setCell ⟨g, 4, none⟩ (.pointer none)).setCell ⟨g, 5, none⟩ (.string ⟨#[]⟩)).setCell ⟨g, 6, none⟩ (.int .u64 0)).setCell ⟨g, 7, none⟩ (.int .i64 0)).setCell ⟨g, 8, none⟩ (.pointer none)).setCell ⟨g, 9, none⟩ (.int .i64 0)).setCell ⟨g, 10, none⟩ (.int .u64 0)).setCell ⟨g, 11, none⟩ (.int .i64 0)).setCell ⟨g, 12, none⟩ (.pointer none)).setCell ⟨g, 13, none⟩ (.string ⟨#[]⟩)).heap[g]? = some (.cells #[.string p.1, .string p.2, .int .u8 0, .int .u8 0, .pointer none, .string ⟨#[]⟩, .int .u64 0, .int .i64 0, .pointer none, .int .i64 0, .int .u64 0, .int .i64 0, .pointer none, .string ⟨#[]⟩] 58 (0, 0)) ∧ w.grownBy ((((((((((((((w.setCell ⟨g, 0, none⟩ (.string p.1)).setCell ⟨g, 1, none⟩ (.string p.2)).setCell ⟨g, 2, none⟩ (.int .u8 0)).setCell ⟨g, 3, none⟩ (.int .u8 0)).setCell ⟨g, 4, none⟩ (.pointer none)).setCell ⟨g, 5, none⟩ (.string ⟨#[]⟩)).setCell ⟨g, 6, none⟩ (.int .u64 0)).setCell ⟨g, 7, none⟩ (.int .i64 0)).setCell ⟨g, 8, none⟩ (.pointer none)).setCell ⟨g, 9, none⟩ (.int .i64 0)).setCell ⟨g, 10, none⟩ (.int .u64 0)).setCell ⟨g, 11, none⟩ (.int .i64 0)).setCell ⟨g, 12, none⟩ (.pointer none)).setCell ⟨g, 13, none⟩ (.string ⟨#[]⟩)) (some g) := by
  have h0 := heap_setCell_same w g 0 _ 58 (.string p.1) h
  simp only [List.setIfInBounds_toArray, List.set_cons_zero, List.set_cons_succ] at h0
  have h1 := heap_setCell_same _ g 1 _ 58 (.string p.2) h0
  simp only [List.setIfInBounds_toArray, List.set_cons_zero, List.set_cons_succ] at h1
  have h2 := heap_setCell_same _ g 2 _ 58 (.int .u8 0) h1
  simp only [List.setIfInBounds_toArray, List.set_cons_zero, List.set_cons_succ] at h2
  have h3 := heap_setCell_same _ g 3 _ 58 (.int .u8 0) h2
  simp only [List.setIfInBounds_toArray, List.set_cons_zero, List.set_cons_succ] at h3
  have h4 := heap_setCell_same _ g 4 _ 58 (.pointer none) h3
  simp only [List.setIfInBounds_toArray, List.set_cons_zero, List.set_cons_succ] at h4
  have h5 := heap_setCell_same _ g 5 _ 58 (.string ⟨#[]⟩) h4
  simp only [List.setIfInBounds_toArray, List.set_cons_zero, List.set_cons_succ] at h5
  have h6 := heap_setCell_same _ g 6 _ 58 (.int .u64 0) h5
  simp only [List.setIfInBounds_toArray, List.set_cons_zero, List.set_cons_succ] at h6
  have h7 := heap_setCell_same _ g 7 _ 58 (.int .i64 0) h6
  simp only [List.setIfInBounds_toArray, List.set_cons_zero, List.set_cons_succ] at h7
  have h8 := heap_setCell_same _ g 8 _ 58 (.pointer none) h7
  simp only [List.setIfInBounds_toArray, List.set_cons_zero, List.set_cons_succ] at h8
  have h9 := heap_setCell_same _ g 9 _ 58 (.int .i64 0) h8
  simp only [List.setIfInBounds_toArray, List.set_cons_zero, List.set_cons_succ] at h9
  have h10 := heap_setCell_same _ g 10 _ 58 (.int .u64 0) h9
  simp only [List.setIfInBounds_toArray, List.set_cons_zero, List.set_cons_succ] at h10
  have h11 := heap_setCell_same _ g 11 _ 58 (.int .i64 0) h10
  simp only [List.setIfInBounds_toArray, List.set_cons_zero, List.set_cons_succ] at h11
  have h12 := heap_setCell_same _ g 12 _ 58 (.pointer none) h11
  simp only [List.setIfInBounds_toArray, List.set_cons_zero, List.set_cons_succ] at h12
  have h13 := heap_setCell_same _ g 13 _ 58 (.string ⟨#[]⟩) h12
  simp only [List.setIfInBounds_toArray, List.set_cons_zero, List.set_cons_succ] at h13
  refine ⟨h13, ?_⟩
  refine World.grownBy.andThen ?_ (grownBy_setCell _ ⟨g, 13, none⟩ _) (fun j e => .inr e)
  refine World.grownBy.andThen ?_ (grownBy_setCell _ ⟨g, 12, none⟩ _) (fun j e => .inr e)
  refine World.grownBy.andThen ?_ (grownBy_setCell _ ⟨g, 11, none⟩ _) (fun j e => .inr e)
  refine World.grownBy.andThen ?_ (grownBy_setCell _ ⟨g, 10, none⟩ _) (fun j e => .inr e)
  refine World.grownBy.andThen ?_ (grownBy_setCell _ ⟨g, 9, none⟩ _) (fun j e => .inr e)
  refine World.grownBy.andThen ?_ (grownBy_setCell _ ⟨g, 8, none⟩ _) (fun j e => .inr e)
  refine World.grownBy.andThen ?_ (grownBy_setCell _ ⟨g, 7, none⟩ _) (fun j e => .inr e)
  refine World.grownBy.andThen ?_ (grownBy_setCell _ ⟨g, 6, none⟩ _) (fun j e => .inr e)
  refine World.grownBy.andThen ?_ (grownBy_setCell _ ⟨g, 5, none⟩ _) (fun j e => .inr e)
  refine World.grownBy.andThen ?_ (grownBy_setCell _ ⟨g, 4, none⟩ _) (fun j e => .inr e)
  refine World.grownBy.andThen ?_ (grownBy_setCell _ ⟨g, 3, none⟩ _) (fun j e => .inr e)
  refine World.grownBy.andThen ?_ (grownBy_setCell _ ⟨g, 2, none⟩ _) (fun j e => .inr e)
  refine World.grownBy.andThen ?_ (grownBy_setCell _ ⟨g, 1, none⟩ _) (fun j e => .inr e)
  exact grownBy_setCell w ⟨g, 0, none⟩ _

set_option maxRecDepth 100000 in
theorem res28 (tmps : Array Value) (W : World) (g : Nat) (cs : Array Value) (hs : cs.size = 14) (h6 : tmps.getD 6 undef = .pointer (some ⟨g, 0, none⟩)) (h7 : tmps.getD 7 undef = .bool true) (hb : W.heap[g]? = some (.cells cs 58 (0, 0))) :
    (results Try.f28 tmps).run Try.prog W = .ok (.tuple #[.agg cs, .bool true]) W := by
  rw [results_cell_tmp rfl, h6, h7]
  have hi : (Try.prog.info? 58).map (·.size) = some cs.size := by rw [hs]; kernel_rfl
  simp [asAddr, run_loadVar_row W g 58 58 cs (0, 0) _ hb Try.underlying58 rfl hi, Result.andThen]

end Go.Proofs.Qxb6608833a
