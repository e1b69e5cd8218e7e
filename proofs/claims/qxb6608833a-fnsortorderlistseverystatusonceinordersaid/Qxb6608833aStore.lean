import Derived.Test.Qxb6608833aStat
import Derived.Test.Qxb6608833aSort
namespace Go.Proofs.Qxb6608833a
open Go.RowKit

/-- A store's cells. -/
abbrev storeCells (st cnt : Int) (m : Value) (u : Nat) (v : Value) (s : Bool) : Array Value :=
  #[.int .i32 st, .int .u32 0, .int .u32 0, .int .u32 0, .int .i32 cnt, .int .i32 0, m, .pointer none, .map none, .pointer none, .pointer none, .pointer none, .nilIface, .int .i64 0, .map (some u), .int .i64 10000, .int .u64 0, .int .i64 0, .pointer none, v, .bool s]

/-- Block S is a store. -/
def StoreAt (w : World) (S : Nat) (st cnt : Int) (B u : Nat) (v : Value) (s : Bool) : Prop := w.heap[S]? = some (.cells (storeCells st cnt (.map (some B)) u v s) 101 (0, 0))

theorem StoreAt.cell {w : World} {S : Nat} {st cnt : Int} {B u : Nat} {v : Value} {s : Bool} (h : StoreAt w S st cnt B u v s) (j : Nat) : w.cell? ⟨S, j, none⟩ = (storeCells st cnt (.map (some B)) u v s)[j]? := cell_of_row w S j _ 101 (0, 0) h
theorem StoreAt.frozen {w : World} {S : Nat} {st cnt : Int} {B u : Nat} {v : Value} {s : Bool} (h : StoreAt w S st cnt B u v s) (j : Nat) : w.frozen? ⟨S, j, none⟩ = false := frozen_of_row w S j _ 101 h
theorem StoreAt.lt {w : World} {S : Nat} {st cnt : Int} {B u : Nat} {v : Value} {s : Bool} (h : StoreAt w S st cnt B u v s) : S < w.heap.size := (Array.getElem?_eq_some_iff.1 h).1
theorem StoreAt.order {w : World} {S : Nat} {st cnt : Int} {B u : Nat} {v : Value} {s : Bool} (h : StoreAt w S st cnt B u v s) (v' : Value) : StoreAt (w.setCell ⟨S, 19, none⟩ v') S st cnt B u v' s := heap_setCell_same w S 19 _ 101 v' h
theorem StoreAt.sorted {w : World} {S : Nat} {st cnt : Int} {B u : Nat} {v : Value} {s : Bool} (h : StoreAt w S st cnt B u v s) (s' : Bool) : StoreAt (w.setCell ⟨S, 20, none⟩ (.bool s')) S st cnt B u v s' := heap_setCell_same w S 20 _ 101 (.bool s') h
theorem StoreAt.state {w : World} {S : Nat} {st cnt : Int} {B u : Nat} {v : Value} {s : Bool} (h : StoreAt w S st cnt B u v s) (st' : Int) : StoreAt (w.setCell ⟨S, 0, none⟩ (.int .i32 st')) S st' cnt B u v s := heap_setCell_same w S 0 _ 101 (.int .i32 st') h
theorem StoreAt.count {w : World} {S : Nat} {st cnt : Int} {B u : Nat} {v : Value} {s : Bool} (h : StoreAt w S st cnt B u v s) (cnt' : Int) : StoreAt (w.setCell ⟨S, 4, none⟩ (.int .i32 cnt')) S st cnt' B u v s := heap_setCell_same w S 4 _ 101 (.int .i32 cnt') h

theorem grownBy_setCell (w : World) (a : Addr) (u : Value) : w.grownBy (w.setCell a u) (some a.block) :=
  ⟨rfl, rfl, rfl, by simp, fun k _ hk => Below.heap_setCell w a u k (fun e => hk (by rw [e]))⟩

/-- All blocks that were there, but those of 'ex', are as they were. -/
structure Kept (ex : Nat → Prop) (w w' : World) : Prop where
  os : w'.os = w.os
  tape : w'.tape = w.tape
  output : w'.output = w.output
  size : w.heap.size ≤ w'.heap.size
  block : ∀ k, k < w.heap.size → ¬ ex k → w'.heap[k]? = w.heap[k]?

theorem Kept.refl (ex : Nat → Prop) (w : World) : Kept ex w w := ⟨rfl, rfl, rfl, Nat.le_refl _, fun _ _ _ => rfl⟩
theorem Kept.trans {ex ex' : Nat → Prop} {a b c : World} (h : Kept ex a b) (k : Kept ex' b c) (he : ∀ j, j < a.heap.size → ex' j → ex j) : Kept ex a c :=
  ⟨k.os.trans h.os, k.tape.trans h.tape, k.output.trans h.output, Nat.le_trans h.size k.size, fun j hj hn => (k.block j (Nat.lt_of_lt_of_le hj h.size) (fun e => hn (he j hj e))).trans (h.block j hj hn)⟩
theorem Kept.grown {w w' : World} {row : Option Nat} (h : w.grownBy w' row) : Kept (fun k => row = some k) w w' := ⟨h.os, h.tape, h.output, h.size, fun k hk hn => h.block k hk (fun e => hn e.symm)⟩
theorem Kept.below {w w' : World} {B : Nat} (h : Below B w w') : Kept (fun k => B ≤ k) w w' := ⟨h.os, h.tape, h.output, h.size, fun k _ hn => h.block k (by omega)⟩
theorem Kept.to {ex : Nat → Prop} {w w' : World} {B : Nat} (h : Kept ex w w') (hB : B ≤ w.heap.size) (he : ∀ k, ex k → B ≤ k) : Below B w w' := ⟨h.os, h.tape, h.output, h.size, fun k hk => h.block k (by omega) (fun e => by have := he k e; omega)⟩
theorem Kept.mono {ex ex' : Nat → Prop} {w w' : World} (h : Kept ex w w') (he : ∀ j, j < w.heap.size → ex j → ex' j) : Kept ex' w w' := ⟨h.os, h.tape, h.output, h.size, fun k hk hn => h.block k hk (fun e => hn (he k hk e))⟩
theorem Kept.store {ex : Nat → Prop} {w w' : World} (h : Kept ex w w') {S : Nat} {st cnt : Int} {B u : Nat} {v : Value} {s : Bool} (hS : StoreAt w S st cnt B u v s) (hn : ¬ ex S) : StoreAt w' S st cnt B u v s := (h.block S hS.lt hn).trans hS
theorem Kept.krow {ex : Nat → Prop} {w w' : World} (h : Kept ex w w') {g off : Nat} {ks : List Key} (hn : ¬ ex g) (hR : KRow w (some ⟨g, off, none⟩) ks) : KRow w' (some ⟨g, off, none⟩) ks := by
  rcases hR with e | ⟨b, off', e, hb, hc⟩
  · exact .inl e
  · cases e
    have hc' : ∀ o, w'.cell? ⟨g, o, none⟩ = w.cell? ⟨g, o, none⟩ := fun o => World.cell?_of_block (w := w) (a := ⟨g, o, none⟩) (h.block g hb hn)
    exact .inr ⟨g, off, rfl, Nat.lt_of_lt_of_le hb h.size, fun j hj => ⟨(hc' _).trans (hc j hj).1, (hc' _).trans (hc j hj).2⟩⟩

set_option maxHeartbeats 1000000 in
theorem newStore_any (B : Nat) (a : Option Addr) (n cap : Nat) (s : Bool) (w : World) :
    Calls Try.prog 19 #[.map (some B), .slice a n cap, .bool s] w fun e w' => e = .returned (.pointer (some ⟨w.heap.size + 1, 0, none⟩)) ∧ StoreAt w' (w.heap.size + 1) 0 0 B w.heap.size (.slice a n cap) s ∧ Below w.heap.size w w' := by
  have hmm := @run_makeMap Try.prog
  go_enter Try.func19, Try.ntmps19
  go_wp2
  go_ret
  refine ⟨rfl, ?_, ((Below.refl _ _).alloc (Nat.le_refl _) _).alloc (by simp) _⟩
  have := heap_alloc_new (w.alloc (.map #[] 0)) (.cells (storeCells 0 0 (.map (some B)) w.heap.size (.slice a n cap) s) 101)
  simpa [StoreAt] using this

set_option maxHeartbeats 1000000 in
theorem order_any (S : Nat) (st cnt : Int) (B u : Nat) (a : Option Addr) (n cap : Nat) (s : Bool) (w : World) (h : StoreAt w S st cnt B u (.slice a n cap) s) :
    Calls Try.prog 24 #[.pointer (some ⟨S, 0, none⟩)] w fun e w' => e = .returned (.slice a n cap) ∧ w = w' := by
  have c19 : w.cell? ⟨S, 19, none⟩ = some (.slice a n cap) := h.cell 19
  go_enter Try.func24, Try.ntmps24
  go_wp2
  go_ret
  exact ⟨rfl, rfl⟩

set_option maxHeartbeats 1000000 in
theorem sorted_any (S : Nat) (st cnt : Int) (B u : Nat) (v : Value) (s : Bool) (w : World) (h : StoreAt w S st cnt B u v s) :
    Calls Try.prog 26 #[.pointer (some ⟨S, 0, none⟩)] w fun e w' => e = .returned (.bool s) ∧ w = w' := by
  have c20 : w.cell? ⟨S, 20, none⟩ = some (.bool s) := h.cell 20
  go_enter Try.func26, Try.ntmps26
  go_wp2
  go_ret
  exact ⟨rfl, rfl⟩

end Go.Proofs.Qxb6608833a
