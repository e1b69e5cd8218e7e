import Derived.Test.Qxb6608833aS14
import Derived.Maps.OwnSet
import Derived.Defers
import Derived.Laws.ResultCell
namespace Go.Proofs.Qxb6608833a
open Go.RowKit

theorem look_at {w : World} {B m : Nat} {D : DataW Unit} {ks : List Key} {p : Key} (h : w.ownsMap Try.prog 103 RS B m D) (hmk : MK D ks) (hp : p ∈ ks) (h1 : p.1.size ≤ maxLen) (h2 : p.2.size ≤ maxLen) :
    (Instr.lookup 38 (.map (some B)) (.agg #[.string p.1, .string p.2]) true).run Try.prog w = .ok (.tuple #[statusV p, .bool true]) w := by
  obtain ⟨kl, hkl⟩ := KL.mk p h1 h2
  obtain ⟨v, ps, hrun, hv⟩ := h.look_ok (t := 38) (e := 58) Try.keyed103 Try.underlying38 (Try.zeroValue58 w) (RS_mk nk) hkl
  rw [hmk.at' p hp kl _ hkl] at hv
  obtain ⟨q, rfl, hq⟩ := RS_inv hv
  simp only [Prod.mk.injEq] at hq
  rw [(hmk.has kl).2 ⟨p, hp, hkl⟩, ← datum_inj hq.1] at hrun
  exact hrun

set_option maxHeartbeats 1000000 in
theorem lookup_nil (n : ByteArray) (w : World) :
    Calls Try.prog 71 #[.pointer none, .string n] w fun e w' => e = .returned (.tuple #[.agg #[.string ⟨#[]⟩, .int .u64 0, .int .u64 0, .pointer none, .slice none 0 0], .bool false]) ∧ Below w.heap.size w w' := by
  go_enter Try.func71, Try.ntmps71
  go_wp2
  (try simp only [Exit.inBlock, Exit.then])
  refine bodyPost_ret (v := .tuple #[.agg #[.string ⟨#[]⟩, .int .u64 0, .int .u64 0, .pointer none, .slice none 0 0], .bool false]) ?_ rfl ⟨rfl, ?_⟩
  · rw [results_cell_tmp rfl]; go_simp
  · exact (Below.refl _ _).alloc (Nat.le_refl _) _

set_option maxHeartbeats 1000000 in
theorem hostName_any (S : Nat) (st cnt : Int) (B u : Nat) (v : Value) (s : Bool) (n : ByteArray) (w : World) (h : StoreAt w S st cnt B u v s) :
    Calls Try.prog 48 #[.pointer (some ⟨S, 0, none⟩), .string n] w fun e w' => e = .returned (.string n) ∧ Below w.heap.size w w' := by
  have c7 : w.cell? ⟨S, 7, none⟩ = some (.pointer none) := h.cell 7
  go_enter Try.func48, Try.ntmps48
  go_wp2_with fail
  refine (lookup_nil n w).mono ?_
  rintro e w1 ⟨rfl, hb1⟩
  go_wp2
  go_ret
  exact ⟨rfl, hb1.alloc hb1.size _⟩

theorem up1 : wrap32 (0 + 1) = 1 := by kernel_rfl
theorem dn1 : wrap32 (1 + -1) = 0 := by kernel_rfl

theorem rlock_any (S : Nat) (B u : Nat) (v : Value) (s : Bool) (w : World) (h : StoreAt w S 0 0 B u v s) :
    Calls Try.prog 46 #[.pointer (some ⟨S, 0, none⟩)] w fun e w' => e = .returned (.tuple #[]) ∧ StoreAt w' S 0 1 B u v s ∧ w.grownBy w' (some S) := by
  have hcon := Go.RwLone.rlock_open Try.rwRLib S 0 0 (.int .i32 0) (.int .u32 0) w (h.cell 0) (h.cell 3) (h.cell 4) (h.frozen 4) (by rw [up1]; omega)
  rw [up1] at hcon
  change Calls Try.prog 46 _ _ _ at hcon
  refine hcon.mono ?_
  rintro e w' ⟨rfl, rfl⟩
  exact ⟨rfl, h.count 1, grownBy_setCell w ⟨S, 4, none⟩ _⟩

theorem runlock_any (S : Nat) (B u : Nat) (v : Value) (s : Bool) (um : FrameMode) (w : World) (h : StoreAt w S 0 1 B u v s) :
    CallsD Try.prog 47 #[.pointer (some ⟨S, 0, none⟩)] um w fun e u' w' => u' = um ∧ (e = .returned (.tuple #[]) ∧ StoreAt w' S 0 0 B u v s ∧ w.grownBy w' (some S)) := by
  have hcon := Go.RwLone.runlock_deferred Try.rwRLib S 0 1 (.int .i32 0) (.int .u32 0) um w (h.cell 0) (h.cell 2) (h.cell 4) (h.frozen 4) (by rw [dn1]; omega)
  rw [dn1] at hcon
  change CallsD Try.prog 47 _ _ _ _ at hcon
  refine hcon.mono ?_
  rintro e u' w' ⟨rfl, rfl, rfl⟩
  exact ⟨rfl, rfl, h.count 0, grownBy_setCell w ⟨S, 4, none⟩ _⟩

set_option maxRecDepth 100000 in
set_option maxHeartbeats 8000000 in
theorem status_any (S : Nat) (B u : Nat) (v : Value) (s : Bool) (m : Nat) (D : DataW Unit) (ks : List Key) (p : Key) (w : World) (h : StoreAt w S 0 0 B u v s) (hM : w.ownsMap Try.prog 103 RS B m D) (hmk : MK D ks) (hp : p ∈ ks) (h1 : p.1.size ≤ maxLen) (h2 : p.2.size ≤ maxLen) :
    Calls Try.prog 28 #[.pointer (some ⟨S, 0, none⟩), .string p.1, .string p.2] w fun e w' => e = .returned (.tuple #[.agg #[.string p.1, .string p.2, .int .u8 0, .int .u8 0, .pointer none, .string ⟨#[]⟩, .int .u64 0, .int .i64 0, .pointer none, .int .i64 0, .int .u64 0, .int .i64 0, .pointer none, .string ⟨#[]⟩], .bool true]) ∧ StoreAt w' S 0 0 B u v s ∧ w.grownBy w' (some S) := by
  have hz58 := Try.zeroValue58
  go_enter_defers Try.func28, Try.ntmps28
  have hS0 : StoreAt (w.alloc (.cells #[.string ⟨#[]⟩, .string ⟨#[]⟩, .int .u8 0, .int .u8 0, .pointer none, .string ⟨#[]⟩, .int .u64 0, .int .i64 0, .pointer none, .int .i64 0, .int .u64 0, .int .i64 0, .pointer none, .string ⟨#[]⟩] 58)) S 0 0 B u v s := (Kept.grown (World.grownBy_alloc w (.cells #[.string ⟨#[]⟩, .string ⟨#[]⟩, .int .u8 0, .int .u8 0, .pointer none, .string ⟨#[]⟩, .int .u64 0, .int .i64 0, .pointer none, .int .i64 0, .int .u64 0, .int .i64 0, .pointer none, .string ⟨#[]⟩] 58) none)).store h (by simp)
  have hM0 : (w.alloc (.cells #[.string ⟨#[]⟩, .string ⟨#[]⟩, .int .u8 0, .int .u8 0, .pointer none, .string ⟨#[]⟩, .int .u64 0, .int .i64 0, .pointer none, .int .i64 0, .int .u64 0, .int .i64 0, .pointer none, .string ⟨#[]⟩] 58)).ownsMap Try.prog 103 RS B m D := hM.alloc _
  have hg0 : w.grownBy (w.alloc (.cells #[.string ⟨#[]⟩, .string ⟨#[]⟩, .int .u8 0, .int .u8 0, .pointer none, .string ⟨#[]⟩, .int .u64 0, .int .i64 0, .pointer none, .int .i64 0, .int .u64 0, .int .i64 0, .pointer none, .string ⟨#[]⟩] 58)) (some S) := (World.grownBy_alloc w (.cells #[.string ⟨#[]⟩, .string ⟨#[]⟩, .int .u8 0, .int .u8 0, .pointer none, .string ⟨#[]⟩, .int .u64 0, .int .i64 0, .pointer none, .int .i64 0, .int .u64 0, .int .i64 0, .pointer none, .string ⟨#[]⟩] 58) none).but _
  have hneM := store_ne_map h hM
  have hbk : (w.alloc (.cells #[.string ⟨#[]⟩, .string ⟨#[]⟩, .int .u8 0, .int .u8 0, .pointer none, .string ⟨#[]⟩, .int .u64 0, .int .i64 0, .pointer none, .int .i64 0, .int .u64 0, .int .i64 0, .pointer none, .string ⟨#[]⟩] 58)).heap[w.heap.size]? = some (.cells #[.string ⟨#[]⟩, .string ⟨#[]⟩, .int .u8 0, .int .u8 0, .pointer none, .string ⟨#[]⟩, .int .u64 0, .int .i64 0, .pointer none, .int .i64 0, .int .u64 0, .int .i64 0, .pointer none, .string ⟨#[]⟩] 58) := heap_alloc_new w _
  have hneS : w.heap.size ≠ S := by have := h.lt; omega
  go_wp2_with fail
  refine (rlock_any S B u v s _ hS0).mono ?_
  rintro e w1 ⟨rfl, hS1, hg1⟩
  have hM1 := hM0.kept hg1 (fun e => hneM (Option.some.inj e).symm)
  have hg01 := hg0.andThen hg1 (fun j e => .inr e)
  have hbk1 : w1.heap[w.heap.size]? = some (.cells #[.string ⟨#[]⟩, .string ⟨#[]⟩, .int .u8 0, .int .u8 0, .pointer none, .string ⟨#[]⟩, .int .u64 0, .int .i64 0, .pointer none, .int .i64 0, .int .u64 0, .int .i64 0, .pointer none, .string ⟨#[]⟩] 58) := (hg1.block _ (by simp) (fun e => hneS (Option.some.inj e))).trans hbk
  have c6 : w1.cell? ⟨S, 6, none⟩ = some (.map (some B)) := hS1.cell 6
  have hsz1 : w.heap.size < w1.heap.size := (Array.getElem?_eq_some_iff.1 hbk1).1
  have hSlt : S < w1.heap.size := hS1.lt
  have HS1 : Hid (StoreAt w1 S 0 1 B u v s) := hS1
  have HM1 : Hid (w1.ownsMap Try.prog 103 RS B m D) := hM1
  have HG1 : Hid (w.grownBy w1 (some S)) := hg01
  have HBK : Hid (w1.heap[w.heap.size]? = some (.cells #[.string ⟨#[]⟩, .string ⟨#[]⟩, .int .u8 0, .int .u8 0, .pointer none, .string ⟨#[]⟩, .int .u64 0, .int .i64 0, .pointer none, .int .i64 0, .int .u64 0, .int .i64 0, .pointer none, .string ⟨#[]⟩] 58)) := hbk1
  clear hS0 hM0 hg0 hbk hg1 hS1 hM1 hg01 hbk1
  have HS1d : Hid (StoreAt w1.drew S 0 1 B u v s) := HS1.out
  have HSa : Hid (StoreAt (w1.alloc (.cells #[.string ⟨#[]⟩, .string ⟨#[]⟩, .int .u8 0, .int .u8 0, .pointer none, .string ⟨#[]⟩, .int .u64 0, .int .i64 0, .pointer none, .int .i64 0, .int .u64 0, .int .i64 0, .pointer none, .string ⟨#[]⟩] 58)).drew S 0 1 B u v s) := (Kept.grown (World.grownBy_alloc w1 (.cells #[.string ⟨#[]⟩, .string ⟨#[]⟩, .int .u8 0, .int .u8 0, .pointer none, .string ⟨#[]⟩, .int .u64 0, .int .i64 0, .pointer none, .int .i64 0, .int .u64 0, .int .i64 0, .pointer none, .string ⟨#[]⟩] 58) none)).store HS1.out (by simp)
  have B1 : Below w1.heap.size w1 w1.drew := (Below.refl _ _).drew
  have B1a : Below w1.heap.size w1 (w1.alloc (.cells #[.string ⟨#[]⟩, .string ⟨#[]⟩, .int .u8 0, .int .u8 0, .pointer none, .string ⟨#[]⟩, .int .u64 0, .int .i64 0, .pointer none, .int .i64 0, .int .u64 0, .int .i64 0, .pointer none, .string ⟨#[]⟩] 58)).drew := ((Below.refl _ _).alloc (Nat.le_refl _) _).drew
  have HZ1 : Hid ((w1.alloc (.cells #[.string ⟨#[]⟩, .string ⟨#[]⟩, .int .u8 0, .int .u8 0, .pointer none, .string ⟨#[]⟩, .int .u64 0, .int .i64 0, .pointer none, .int .i64 0, .int .u64 0, .int .i64 0, .pointer none, .string ⟨#[]⟩] 58)).heap[w1.heap.size]? = some (.cells #[.string ⟨#[]⟩, .string ⟨#[]⟩, .int .u8 0, .int .u8 0, .pointer none, .string ⟨#[]⟩, .int .u64 0, .int .i64 0, .pointer none, .int .i64 0, .int .u64 0, .int .i64 0, .pointer none, .string ⟨#[]⟩] 58)) := heap_alloc_new w1 _
  have hneS1 : w1.heap.size ≠ S := by omega
  have hneq : w1.heap.size ≠ w.heap.size := by omega
  go_wp2
  go_region_held3 (fun w' => w'.cell? ⟨S, 6, none⟩ = some (.map (some B))) (first | (rw [hc']; with_reducible assumption) | (with_reducible exact q6 _) | (simp only [World.cell?_setCell_far, ne_eq, hneS1, not_false_eq_true, hc']; with_reducible assumption) | go_simp | go_keep) (first | (go_at_call 48; (with_reducible refine (hostName_any S 0 1 B u v s p.1 (w1.alloc (.cells #[.string ⟨#[]⟩, .string ⟨#[]⟩, .int .u8 0, .int .u8 0, .pointer none, .string ⟨#[]⟩, .int .u64 0, .int .i64 0, .pointer none, .int .i64 0, .int .u64 0, .int .i64 0, .pointer none, .string ⟨#[]⟩] 58)).drew HSa.out).mono ?_); rintro e w2 ⟨rfl, hb2⟩; have BB : Below w1.heap.size w1 w2 := B1a.trans (hb2.mono (by simp)); have hc' : ∀ o, w2.cell? ⟨S, o, none⟩ = w1.cell? ⟨S, o, none⟩ := fun o => BB.cell (p := ⟨S, o, none⟩) hSlt; have hrun : (Instr.lookup 38 (.map (some B)) (.agg #[.string p.1, .string p.2]) true).run Try.prog w2 = .ok (.tuple #[(.agg #[.string p.1, .string p.2, .int .u8 0, .int .u8 0, .pointer none, .string ⟨#[]⟩, .int .u64 0, .int .i64 0, .pointer none, .int .i64 0, .int .u64 0, .int .i64 0, .pointer none, .string ⟨#[]⟩]), .bool true]) w2 := look_at (ownsMap_below HM1.out BB) hmk hp h1 h2; have hrun2 : (Instr.lookup 38 (.map (some B)) (.agg #[.string p.1, .string p.2]) true).run Try.prog (w2.alloc (.cells #[.string ⟨#[]⟩, .string ⟨#[]⟩, .int .u8 0, .int .u8 0, .pointer none, .string ⟨#[]⟩, .int .u64 0, .int .i64 0, .pointer none, .int .i64 0, .int .u64 0, .int .i64 0, .pointer none, .string ⟨#[]⟩] 58)) = .ok (.tuple #[(.agg #[.string p.1, .string p.2, .int .u8 0, .int .u8 0, .pointer none, .string ⟨#[]⟩, .int .u64 0, .int .i64 0, .pointer none, .int .i64 0, .int .u64 0, .int .i64 0, .pointer none, .string ⟨#[]⟩]), .bool true]) (w2.alloc (.cells #[.string ⟨#[]⟩, .string ⟨#[]⟩, .int .u8 0, .int .u8 0, .pointer none, .string ⟨#[]⟩, .int .u64 0, .int .i64 0, .pointer none, .int .i64 0, .int .u64 0, .int .i64 0, .pointer none, .string ⟨#[]⟩] 58)) := look_at ((ownsMap_below HM1.out BB).alloc _) hmk hp h1 h2; have q6 : ∀ o, (w2.alloc o).cell? ⟨S, 6, none⟩ = some (.map (some B)) := fun o => ((Kept.grown (World.grownBy_alloc w2 o none)).store ((Kept.below BB).store HS1.out (by omega)) (by simp)).cell 6; have hb6 : w2.heap[w.heap.size]? = some (.cells #[.string ⟨#[]⟩, .string ⟨#[]⟩, .int .u8 0, .int .u8 0, .pointer none, .string ⟨#[]⟩, .int .u64 0, .int .i64 0, .pointer none, .int .i64 0, .int .u64 0, .int .i64 0, .pointer none, .string ⟨#[]⟩] 58) := (BB.block _ hsz1).trans HBK.out; have hz8 : w2.heap[w1.heap.size]? = some (.cells #[.string ⟨#[]⟩, .string ⟨#[]⟩, .int .u8 0, .int .u8 0, .pointer none, .string ⟨#[]⟩, .int .u64 0, .int .i64 0, .pointer none, .int .i64 0, .int .u64 0, .int .i64 0, .pointer none, .string ⟨#[]⟩] 58) := (hb2.block w1.heap.size (by simp)).trans HZ1.out; obtain ⟨z0, z1, z2, z3, z4, z5, z6, z7, z8, z9, z10, z11, z12, z13, f0, f1, f2, f3, f4, f5, f6, f7, f8, f9, f10, f11, f12, f13⟩ := blk14 hz8) | (go_at_call 48; (with_reducible refine (hostName_any S 0 1 B u v s p.1 w1.drew HS1d.out).mono ?_); rintro e w2 ⟨rfl, hb2⟩; have BB : Below w1.heap.size w1 w2 := B1.trans hb2; have hc' : ∀ o, w2.cell? ⟨S, o, none⟩ = w1.cell? ⟨S, o, none⟩ := fun o => BB.cell (p := ⟨S, o, none⟩) hSlt; have hrun : (Instr.lookup 38 (.map (some B)) (.agg #[.string p.1, .string p.2]) true).run Try.prog w2 = .ok (.tuple #[(.agg #[.string p.1, .string p.2, .int .u8 0, .int .u8 0, .pointer none, .string ⟨#[]⟩, .int .u64 0, .int .i64 0, .pointer none, .int .i64 0, .int .u64 0, .int .i64 0, .pointer none, .string ⟨#[]⟩]), .bool true]) w2 := look_at (ownsMap_below HM1.out BB) hmk hp h1 h2; have hrun2 : (Instr.lookup 38 (.map (some B)) (.agg #[.string p.1, .string p.2]) true).run Try.prog (w2.alloc (.cells #[.string ⟨#[]⟩, .string ⟨#[]⟩, .int .u8 0, .int .u8 0, .pointer none, .string ⟨#[]⟩, .int .u64 0, .int .i64 0, .pointer none, .int .i64 0, .int .u64 0, .int .i64 0, .pointer none, .string ⟨#[]⟩] 58)) = .ok (.tuple #[(.agg #[.string p.1, .string p.2, .int .u8 0, .int .u8 0, .pointer none, .string ⟨#[]⟩, .int .u64 0, .int .i64 0, .pointer none, .int .i64 0, .int .u64 0, .int .i64 0, .pointer none, .string ⟨#[]⟩]), .bool true]) (w2.alloc (.cells #[.string ⟨#[]⟩, .string ⟨#[]⟩, .int .u8 0, .int .u8 0, .pointer none, .string ⟨#[]⟩, .int .u64 0, .int .i64 0, .pointer none, .int .i64 0, .int .u64 0, .int .i64 0, .pointer none, .string ⟨#[]⟩] 58)) := look_at ((ownsMap_below HM1.out BB).alloc _) hmk hp h1 h2; have q6 : ∀ o, (w2.alloc o).cell? ⟨S, 6, none⟩ = some (.map (some B)) := fun o => ((Kept.grown (World.grownBy_alloc w2 o none)).store ((Kept.below BB).store HS1.out (by omega)) (by simp)).cell 6; have hb6 : w2.heap[w.heap.size]? = some (.cells #[.string ⟨#[]⟩, .string ⟨#[]⟩, .int .u8 0, .int .u8 0, .pointer none, .string ⟨#[]⟩, .int .u64 0, .int .i64 0, .pointer none, .int .i64 0, .int .u64 0, .int .i64 0, .pointer none, .string ⟨#[]⟩] 58) := (BB.block _ hsz1).trans HBK.out))
  · have F1 : (w2.alloc (.cells #[.string p.1, .string p.2, .int .u8 0, .int .u8 0, .pointer none, .string ⟨#[]⟩, .int .u64 0, .int .i64 0, .pointer none, .int .i64 0, .int .u64 0, .int .i64 0, .pointer none, .string ⟨#[]⟩] 58)).heap[w2.heap.size]? = some (.cells #[.string p.1, .string p.2, .int .u8 0, .int .u8 0, .pointer none, .string ⟨#[]⟩, .int .u64 0, .int .i64 0, .pointer none, .int .i64 0, .int .u64 0, .int .i64 0, .pointer none, .string ⟨#[]⟩] 58 (0, 0)) := heap_alloc_new w2 _
    have F2 : (w2.alloc (.cells #[.string p.1, .string p.2, .int .u8 0, .int .u8 0, .pointer none, .string ⟨#[]⟩, .int .u64 0, .int .i64 0, .pointer none, .int .i64 0, .int .u64 0, .int .i64 0, .pointer none, .string ⟨#[]⟩] 58)).heap[w.heap.size]? = some (.cells #[.string ⟨#[]⟩, .string ⟨#[]⟩, .int .u8 0, .int .u8 0, .pointer none, .string ⟨#[]⟩, .int .u64 0, .int .i64 0, .pointer none, .int .i64 0, .int .u64 0, .int .i64 0, .pointer none, .string ⟨#[]⟩] 58) := ((World.grownBy_alloc w2 (.cells #[.string p.1, .string p.2, .int .u8 0, .int .u8 0, .pointer none, .string ⟨#[]⟩, .int .u64 0, .int .i64 0, .pointer none, .int .i64 0, .int .u64 0, .int .i64 0, .pointer none, .string ⟨#[]⟩] 58) none).block _ (Nat.lt_of_lt_of_le hsz1 BB.size) (by simp)).trans hb6
    have F3 : StoreAt (w2.alloc (.cells #[.string p.1, .string p.2, .int .u8 0, .int .u8 0, .pointer none, .string ⟨#[]⟩, .int .u64 0, .int .i64 0, .pointer none, .int .i64 0, .int .u64 0, .int .i64 0, .pointer none, .string ⟨#[]⟩] 58)) S 0 1 B u v s := (Kept.grown (World.grownBy_alloc w2 (.cells #[.string p.1, .string p.2, .int .u8 0, .int .u8 0, .pointer none, .string ⟨#[]⟩, .int .u64 0, .int .i64 0, .pointer none, .int .i64 0, .int .u64 0, .int .i64 0, .pointer none, .string ⟨#[]⟩] 58) none)).store ((Kept.below BB).store HS1.out (by omega)) (by simp)
    have F4 : w.grownBy (w2.alloc (.cells #[.string p.1, .string p.2, .int .u8 0, .int .u8 0, .pointer none, .string ⟨#[]⟩, .int .u64 0, .int .i64 0, .pointer none, .int .i64 0, .int .u64 0, .int .i64 0, .pointer none, .string ⟨#[]⟩] 58)) (some S) := (HG1.out.andThen (row' := none) ⟨BB.os, BB.tape, BB.output, BB.size, fun k hk _ => BB.block k hk⟩ (fun j e => by cases e)).andThen (World.grownBy_alloc w2 (.cells #[.string p.1, .string p.2, .int .u8 0, .int .u8 0, .pointer none, .string ⟨#[]⟩, .int .u64 0, .int .i64 0, .pointer none, .int .i64 0, .int .u64 0, .int .i64 0, .pointer none, .string ⟨#[]⟩] 58) none) (fun j e => by cases e)
    have hT : w2.heap.size ≠ w.heap.size := by have := BB.size; omega
    clear hrun hrun2 q6 hc' hb6 hb2 BB
    generalize w2.alloc (.cells #[.string p.1, .string p.2, .int .u8 0, .int .u8 0, .pointer none, .string ⟨#[]⟩, .int .u64 0, .int .i64 0, .pointer none, .int .i64 0, .int .u64 0, .int .i64 0, .pointer none, .string ⟨#[]⟩] 58) = W at *
    generalize w2.heap.size = T at *
    have FS := set14 p F2
    have HF1 : Hid (((((((((((((((W.setCell ⟨w.heap.size, 0, none⟩ (.string p.1)).setCell ⟨w.heap.size, 1, none⟩ (.string p.2)).setCell ⟨w.heap.size, 2, none⟩ (.int .u8 0)).setCell ⟨w.heap.size, 3, none⟩ (.int .u8 0)).setCell ⟨w.heap.size, 4, none⟩ (.pointer none)).setCell ⟨w.heap.size, 5, none⟩ (.string ⟨#[]⟩)).setCell ⟨w.heap.size, 6, none⟩ (.int .u64 0)).setCell ⟨w.heap.size, 7, none⟩ (.int .i64 0)).setCell ⟨w.heap.size, 8, none⟩ (.pointer none)).setCell ⟨w.heap.size, 9, none⟩ (.int .i64 0)).setCell ⟨w.heap.size, 10, none⟩ (.int .u64 0)).setCell ⟨w.heap.size, 11, none⟩ (.int .i64 0)).setCell ⟨w.heap.size, 12, none⟩ (.pointer none)).setCell ⟨w.heap.size, 13, none⟩ (.string ⟨#[]⟩)).heap[w.heap.size]? = some (.cells #[.string p.1, .string p.2, .int .u8 0, .int .u8 0, .pointer none, .string ⟨#[]⟩, .int .u64 0, .int .i64 0, .pointer none, .int .i64 0, .int .u64 0, .int .i64 0, .pointer none, .string ⟨#[]⟩] 58 (0, 0))) := FS.1
    have HF2 : Hid (StoreAt ((((((((((((((W.setCell ⟨w.heap.size, 0, none⟩ (.string p.1)).setCell ⟨w.heap.size, 1, none⟩ (.string p.2)).setCell ⟨w.heap.size, 2, none⟩ (.int .u8 0)).setCell ⟨w.heap.size, 3, none⟩ (.int .u8 0)).setCell ⟨w.heap.size, 4, none⟩ (.pointer none)).setCell ⟨w.heap.size, 5, none⟩ (.string ⟨#[]⟩)).setCell ⟨w.heap.size, 6, none⟩ (.int .u64 0)).setCell ⟨w.heap.size, 7, none⟩ (.int .i64 0)).setCell ⟨w.heap.size, 8, none⟩ (.pointer none)).setCell ⟨w.heap.size, 9, none⟩ (.int .i64 0)).setCell ⟨w.heap.size, 10, none⟩ (.int .u64 0)).setCell ⟨w.heap.size, 11, none⟩ (.int .i64 0)).setCell ⟨w.heap.size, 12, none⟩ (.pointer none)).setCell ⟨w.heap.size, 13, none⟩ (.string ⟨#[]⟩)) S 0 1 B u v s) := (Kept.grown FS.2).store F3 (fun e => hneS (Option.some.inj e))
    have HF3 : Hid (w.grownBy ((((((((((((((W.setCell ⟨w.heap.size, 0, none⟩ (.string p.1)).setCell ⟨w.heap.size, 1, none⟩ (.string p.2)).setCell ⟨w.heap.size, 2, none⟩ (.int .u8 0)).setCell ⟨w.heap.size, 3, none⟩ (.int .u8 0)).setCell ⟨w.heap.size, 4, none⟩ (.pointer none)).setCell ⟨w.heap.size, 5, none⟩ (.string ⟨#[]⟩)).setCell ⟨w.heap.size, 6, none⟩ (.int .u64 0)).setCell ⟨w.heap.size, 7, none⟩ (.int .i64 0)).setCell ⟨w.heap.size, 8, none⟩ (.pointer none)).setCell ⟨w.heap.size, 9, none⟩ (.int .i64 0)).setCell ⟨w.heap.size, 10, none⟩ (.int .u64 0)).setCell ⟨w.heap.size, 11, none⟩ (.int .i64 0)).setCell ⟨w.heap.size, 12, none⟩ (.pointer none)).setCell ⟨w.heap.size, 13, none⟩ (.string ⟨#[]⟩)) (some S)) := F4.andThen FS.2 (fun j e => by cases e; left; exact Nat.le_refl _)
    obtain ⟨c0, c1, c2, c3, c4, c5, c6, c7, c8, c9, c10, c11, c12, c13⟩ := blkS F1
    obtain ⟨b0, b1, b2, b3, b4, b5, b6, b7, b8, b9, b10, b11, b12, b13, q0, q1, q2, q3, q4, q5, q6, q7, q8, q9, q10, q11, q12, q13⟩ := blk14 F2
    clear FS F1 F2 F3 F4
    go_wp2
    refine leaves_cons (f := 47) (args := #[.pointer (some ⟨S, 0, none⟩)]) (by simp) (by simp [go_sem]) ?_
    refine (runlock_any S B u v s .returning _ HF2.out).mono ?_
    rintro e u' w9 ⟨rfl, rfl, hS9, hg9⟩
    refine ⟨_, res28 _ w9 w.heap.size #[.string p.1, .string p.2, .int .u8 0, .int .u8 0, .pointer none, .string ⟨#[]⟩, .int .u64 0, .int .i64 0, .pointer none, .int .i64 0, .int .u64 0, .int .i64 0, .pointer none, .string ⟨#[]⟩] rfl rfl rfl ((hg9.block _ ?_ (fun e => hneS (Option.some.inj e))).trans HF1.out), rfl, hS9, HF3.out.andThen hg9 (fun j e => .inr e)⟩
    exact (Array.getElem?_eq_some_iff.1 HF1.out).1
  · have F1 : (w2.alloc (.cells #[.string p.1, .string p.2, .int .u8 0, .int .u8 0, .pointer none, .string ⟨#[]⟩, .int .u64 0, .int .i64 0, .pointer none, .int .i64 0, .int .u64 0, .int .i64 0, .pointer none, .string ⟨#[]⟩] 58)).heap[w2.heap.size]? = some (.cells #[.string p.1, .string p.2, .int .u8 0, .int .u8 0, .pointer none, .string ⟨#[]⟩, .int .u64 0, .int .i64 0, .pointer none, .int .i64 0, .int .u64 0, .int .i64 0, .pointer none, .string ⟨#[]⟩] 58 (0, 0)) := heap_alloc_new w2 _
    have F2 : (w2.alloc (.cells #[.string p.1, .string p.2, .int .u8 0, .int .u8 0, .pointer none, .string ⟨#[]⟩, .int .u64 0, .int .i64 0, .pointer none, .int .i64 0, .int .u64 0, .int .i64 0, .pointer none, .string ⟨#[]⟩] 58)).heap[w.heap.size]? = some (.cells #[.string ⟨#[]⟩, .string ⟨#[]⟩, .int .u8 0, .int .u8 0, .pointer none, .string ⟨#[]⟩, .int .u64 0, .int .i64 0, .pointer none, .int .i64 0, .int .u64 0, .int .i64 0, .pointer none, .string ⟨#[]⟩] 58) := ((World.grownBy_alloc w2 (.cells #[.string p.1, .string p.2, .int .u8 0, .int .u8 0, .pointer none, .string ⟨#[]⟩, .int .u64 0, .int .i64 0, .pointer none, .int .i64 0, .int .u64 0, .int .i64 0, .pointer none, .string ⟨#[]⟩] 58) none).block _ (Nat.lt_of_lt_of_le hsz1 BB.size) (by simp)).trans hb6
    have F3 : StoreAt (w2.alloc (.cells #[.string p.1, .string p.2, .int .u8 0, .int .u8 0, .pointer none, .string ⟨#[]⟩, .int .u64 0, .int .i64 0, .pointer none, .int .i64 0, .int .u64 0, .int .i64 0, .pointer none, .string ⟨#[]⟩] 58)) S 0 1 B u v s := (Kept.grown (World.grownBy_alloc w2 (.cells #[.string p.1, .string p.2, .int .u8 0, .int .u8 0, .pointer none, .string ⟨#[]⟩, .int .u64 0, .int .i64 0, .pointer none, .int .i64 0, .int .u64 0, .int .i64 0, .pointer none, .string ⟨#[]⟩] 58) none)).store ((Kept.below BB).store HS1.out (by omega)) (by simp)
    have F4 : w.grownBy (w2.alloc (.cells #[.string p.1, .string p.2, .int .u8 0, .int .u8 0, .pointer none, .string ⟨#[]⟩, .int .u64 0, .int .i64 0, .pointer none, .int .i64 0, .int .u64 0, .int .i64 0, .pointer none, .string ⟨#[]⟩] 58)) (some S) := (HG1.out.andThen (row' := none) ⟨BB.os, BB.tape, BB.output, BB.size, fun k hk _ => BB.block k hk⟩ (fun j e => by cases e)).andThen (World.grownBy_alloc w2 (.cells #[.string p.1, .string p.2, .int .u8 0, .int .u8 0, .pointer none, .string ⟨#[]⟩, .int .u64 0, .int .i64 0, .pointer none, .int .i64 0, .int .u64 0, .int .i64 0, .pointer none, .string ⟨#[]⟩] 58) none) (fun j e => by cases e)
    have hT : w2.heap.size ≠ w.heap.size := by have := BB.size; omega
    clear hrun hrun2 q6 hc' hb6 hb2 BB
    generalize w2.alloc (.cells #[.string p.1, .string p.2, .int .u8 0, .int .u8 0, .pointer none, .string ⟨#[]⟩, .int .u64 0, .int .i64 0, .pointer none, .int .i64 0, .int .u64 0, .int .i64 0, .pointer none, .string ⟨#[]⟩] 58) = W at *
    generalize w2.heap.size = T at *
    have FS := set14 p F2
    have HF1 : Hid (((((((((((((((W.setCell ⟨w.heap.size, 0, none⟩ (.string p.1)).setCell ⟨w.heap.size, 1, none⟩ (.string p.2)).setCell ⟨w.heap.size, 2, none⟩ (.int .u8 0)).setCell ⟨w.heap.size, 3, none⟩ (.int .u8 0)).setCell ⟨w.heap.size, 4, none⟩ (.pointer none)).setCell ⟨w.heap.size, 5, none⟩ (.string ⟨#[]⟩)).setCell ⟨w.heap.size, 6, none⟩ (.int .u64 0)).setCell ⟨w.heap.size, 7, none⟩ (.int .i64 0)).setCell ⟨w.heap.size, 8, none⟩ (.pointer none)).setCell ⟨w.heap.size, 9, none⟩ (.int .i64 0)).setCell ⟨w.heap.size, 10, none⟩ (.int .u64 0)).setCell ⟨w.heap.size, 11, none⟩ (.int .i64 0)).setCell ⟨w.heap.size, 12, none⟩ (.pointer none)).setCell ⟨w.heap.size, 13, none⟩ (.string ⟨#[]⟩)).heap[w.heap.size]? = some (.cells #[.string p.1, .string p.2, .int .u8 0, .int .u8 0, .pointer none, .string ⟨#[]⟩, .int .u64 0, .int .i64 0, .pointer none, .int .i64 0, .int .u64 0, .int .i64 0, .pointer none, .string ⟨#[]⟩] 58 (0, 0))) := FS.1
    have HF2 : Hid (StoreAt ((((((((((((((W.setCell ⟨w.heap.size, 0, none⟩ (.string p.1)).setCell ⟨w.heap.size, 1, none⟩ (.string p.2)).setCell ⟨w.heap.size, 2, none⟩ (.int .u8 0)).setCell ⟨w.heap.size, 3, none⟩ (.int .u8 0)).setCell ⟨w.heap.size, 4, none⟩ (.pointer none)).setCell ⟨w.heap.size, 5, none⟩ (.string ⟨#[]⟩)).setCell ⟨w.heap.size, 6, none⟩ (.int .u64 0)).setCell ⟨w.heap.size, 7, none⟩ (.int .i64 0)).setCell ⟨w.heap.size, 8, none⟩ (.pointer none)).setCell ⟨w.heap.size, 9, none⟩ (.int .i64 0)).setCell ⟨w.heap.size, 10, none⟩ (.int .u64 0)).setCell ⟨w.heap.size, 11, none⟩ (.int .i64 0)).setCell ⟨w.heap.size, 12, none⟩ (.pointer none)).setCell ⟨w.heap.size, 13, none⟩ (.string ⟨#[]⟩)) S 0 1 B u v s) := (Kept.grown FS.2).store F3 (fun e => hneS (Option.some.inj e))
    have HF3 : Hid (w.grownBy ((((((((((((((W.setCell ⟨w.heap.size, 0, none⟩ (.string p.1)).setCell ⟨w.heap.size, 1, none⟩ (.string p.2)).setCell ⟨w.heap.size, 2, none⟩ (.int .u8 0)).setCell ⟨w.heap.size, 3, none⟩ (.int .u8 0)).setCell ⟨w.heap.size, 4, none⟩ (.pointer none)).setCell ⟨w.heap.size, 5, none⟩ (.string ⟨#[]⟩)).setCell ⟨w.heap.size, 6, none⟩ (.int .u64 0)).setCell ⟨w.heap.size, 7, none⟩ (.int .i64 0)).setCell ⟨w.heap.size, 8, none⟩ (.pointer none)).setCell ⟨w.heap.size, 9, none⟩ (.int .i64 0)).setCell ⟨w.heap.size, 10, none⟩ (.int .u64 0)).setCell ⟨w.heap.size, 11, none⟩ (.int .i64 0)).setCell ⟨w.heap.size, 12, none⟩ (.pointer none)).setCell ⟨w.heap.size, 13, none⟩ (.string ⟨#[]⟩)) (some S)) := F4.andThen FS.2 (fun j e => by cases e; left; exact Nat.le_refl _)
    obtain ⟨c0, c1, c2, c3, c4, c5, c6, c7, c8, c9, c10, c11, c12, c13⟩ := blkS F1
    obtain ⟨b0, b1, b2, b3, b4, b5, b6, b7, b8, b9, b10, b11, b12, b13, q0, q1, q2, q3, q4, q5, q6, q7, q8, q9, q10, q11, q12, q13⟩ := blk14 F2
    clear FS F1 F2 F3 F4
    go_wp2
    refine leaves_cons (f := 47) (args := #[.pointer (some ⟨S, 0, none⟩)]) (by simp) (by simp [go_sem]) ?_
    refine (runlock_any S B u v s .returning _ HF2.out).mono ?_
    rintro e u' w9 ⟨rfl, rfl, hS9, hg9⟩
    refine ⟨_, res28 _ w9 w.heap.size #[.string p.1, .string p.2, .int .u8 0, .int .u8 0, .pointer none, .string ⟨#[]⟩, .int .u64 0, .int .i64 0, .pointer none, .int .i64 0, .int .u64 0, .int .i64 0, .pointer none, .string ⟨#[]⟩] rfl rfl rfl ((hg9.block _ ?_ (fun e => hneS (Option.some.inj e))).trans HF1.out), rfl, hS9, HF3.out.andThen hg9 (fun j e => .inr e)⟩
    exact (Array.getElem?_eq_some_iff.1 HF1.out).1
  · have F0 := set14 p hz8
    have F1 := F0.1
    have F5 := F0.2
    have F2 := (F5.block w.heap.size (Nat.lt_of_lt_of_le hsz1 BB.size) (fun e => hneq (Option.some.inj e).symm)).trans hb6
    have F3 : StoreAt ((((((((((((((w2.setCell ⟨w1.heap.size, 0, none⟩ (.string p.1)).setCell ⟨w1.heap.size, 1, none⟩ (.string p.2)).setCell ⟨w1.heap.size, 2, none⟩ (.int .u8 0)).setCell ⟨w1.heap.size, 3, none⟩ (.int .u8 0)).setCell ⟨w1.heap.size, 4, none⟩ (.pointer none)).setCell ⟨w1.heap.size, 5, none⟩ (.string ⟨#[]⟩)).setCell ⟨w1.heap.size, 6, none⟩ (.int .u64 0)).setCell ⟨w1.heap.size, 7, none⟩ (.int .i64 0)).setCell ⟨w1.heap.size, 8, none⟩ (.pointer none)).setCell ⟨w1.heap.size, 9, none⟩ (.int .i64 0)).setCell ⟨w1.heap.size, 10, none⟩ (.int .u64 0)).setCell ⟨w1.heap.size, 11, none⟩ (.int .i64 0)).setCell ⟨w1.heap.size, 12, none⟩ (.pointer none)).setCell ⟨w1.heap.size, 13, none⟩ (.string ⟨#[]⟩)) S 0 1 B u v s := (Kept.grown F5).store ((Kept.below BB).store HS1.out (by omega)) (fun e => hneS1 (Option.some.inj e))
    have F4 : w.grownBy ((((((((((((((w2.setCell ⟨w1.heap.size, 0, none⟩ (.string p.1)).setCell ⟨w1.heap.size, 1, none⟩ (.string p.2)).setCell ⟨w1.heap.size, 2, none⟩ (.int .u8 0)).setCell ⟨w1.heap.size, 3, none⟩ (.int .u8 0)).setCell ⟨w1.heap.size, 4, none⟩ (.pointer none)).setCell ⟨w1.heap.size, 5, none⟩ (.string ⟨#[]⟩)).setCell ⟨w1.heap.size, 6, none⟩ (.int .u64 0)).setCell ⟨w1.heap.size, 7, none⟩ (.int .i64 0)).setCell ⟨w1.heap.size, 8, none⟩ (.pointer none)).setCell ⟨w1.heap.size, 9, none⟩ (.int .i64 0)).setCell ⟨w1.heap.size, 10, none⟩ (.int .u64 0)).setCell ⟨w1.heap.size, 11, none⟩ (.int .i64 0)).setCell ⟨w1.heap.size, 12, none⟩ (.pointer none)).setCell ⟨w1.heap.size, 13, none⟩ (.string ⟨#[]⟩)) (some S) := (HG1.out.andThen (row' := none) ⟨BB.os, BB.tape, BB.output, BB.size, fun k hk _ => BB.block k hk⟩ (fun j e => by cases e)).andThen F5 (fun j e => by cases e; left; omega)
    have hT : w1.heap.size ≠ w.heap.size := hneq
    clear F0 F5 hrun hrun2 q6 hc' hb6 hb2 BB hz8 z0 z1 z2 z3 z4 z5 z6 z7 z8 z9 z10 z11 z12 z13 f0 f1 f2 f3 f4 f5 f6 f7 f8 f9 f10 f11 f12 f13
    generalize ((((((((((((((w2.setCell ⟨w1.heap.size, 0, none⟩ (.string p.1)).setCell ⟨w1.heap.size, 1, none⟩ (.string p.2)).setCell ⟨w1.heap.size, 2, none⟩ (.int .u8 0)).setCell ⟨w1.heap.size, 3, none⟩ (.int .u8 0)).setCell ⟨w1.heap.size, 4, none⟩ (.pointer none)).setCell ⟨w1.heap.size, 5, none⟩ (.string ⟨#[]⟩)).setCell ⟨w1.heap.size, 6, none⟩ (.int .u64 0)).setCell ⟨w1.heap.size, 7, none⟩ (.int .i64 0)).setCell ⟨w1.heap.size, 8, none⟩ (.pointer none)).setCell ⟨w1.heap.size, 9, none⟩ (.int .i64 0)).setCell ⟨w1.heap.size, 10, none⟩ (.int .u64 0)).setCell ⟨w1.heap.size, 11, none⟩ (.int .i64 0)).setCell ⟨w1.heap.size, 12, none⟩ (.pointer none)).setCell ⟨w1.heap.size, 13, none⟩ (.string ⟨#[]⟩)) = W at *
    generalize hT1 : w1.heap.size = T at *
    clear hT1
    have FS := set14 p F2
    have HF1 : Hid (((((((((((((((W.setCell ⟨w.heap.size, 0, none⟩ (.string p.1)).setCell ⟨w.heap.size, 1, none⟩ (.string p.2)).setCell ⟨w.heap.size, 2, none⟩ (.int .u8 0)).setCell ⟨w.heap.size, 3, none⟩ (.int .u8 0)).setCell ⟨w.heap.size, 4, none⟩ (.pointer none)).setCell ⟨w.heap.size, 5, none⟩ (.string ⟨#[]⟩)).setCell ⟨w.heap.size, 6, none⟩ (.int .u64 0)).setCell ⟨w.heap.size, 7, none⟩ (.int .i64 0)).setCell ⟨w.heap.size, 8, none⟩ (.pointer none)).setCell ⟨w.heap.size, 9, none⟩ (.int .i64 0)).setCell ⟨w.heap.size, 10, none⟩ (.int .u64 0)).setCell ⟨w.heap.size, 11, none⟩ (.int .i64 0)).setCell ⟨w.heap.size, 12, none⟩ (.pointer none)).setCell ⟨w.heap.size, 13, none⟩ (.string ⟨#[]⟩)).heap[w.heap.size]? = some (.cells #[.string p.1, .string p.2, .int .u8 0, .int .u8 0, .pointer none, .string ⟨#[]⟩, .int .u64 0, .int .i64 0, .pointer none, .int .i64 0, .int .u64 0, .int .i64 0, .pointer none, .string ⟨#[]⟩] 58 (0, 0))) := FS.1
    have HF2 : Hid (StoreAt ((((((((((((((W.setCell ⟨w.heap.size, 0, none⟩ (.string p.1)).setCell ⟨w.heap.size, 1, none⟩ (.string p.2)).setCell ⟨w.heap.size, 2, none⟩ (.int .u8 0)).setCell ⟨w.heap.size, 3, none⟩ (.int .u8 0)).setCell ⟨w.heap.size, 4, none⟩ (.pointer none)).setCell ⟨w.heap.size, 5, none⟩ (.string ⟨#[]⟩)).setCell ⟨w.heap.size, 6, none⟩ (.int .u64 0)).setCell ⟨w.heap.size, 7, none⟩ (.int .i64 0)).setCell ⟨w.heap.size, 8, none⟩ (.pointer none)).setCell ⟨w.heap.size, 9, none⟩ (.int .i64 0)).setCell ⟨w.heap.size, 10, none⟩ (.int .u64 0)).setCell ⟨w.heap.size, 11, none⟩ (.int .i64 0)).setCell ⟨w.heap.size, 12, none⟩ (.pointer none)).setCell ⟨w.heap.size, 13, none⟩ (.string ⟨#[]⟩)) S 0 1 B u v s) := (Kept.grown FS.2).store F3 (fun e => hneS (Option.some.inj e))
    have HF3 : Hid (w.grownBy ((((((((((((((W.setCell ⟨w.heap.size, 0, none⟩ (.string p.1)).setCell ⟨w.heap.size, 1, none⟩ (.string p.2)).setCell ⟨w.heap.size, 2, none⟩ (.int .u8 0)).setCell ⟨w.heap.size, 3, none⟩ (.int .u8 0)).setCell ⟨w.heap.size, 4, none⟩ (.pointer none)).setCell ⟨w.heap.size, 5, none⟩ (.string ⟨#[]⟩)).setCell ⟨w.heap.size, 6, none⟩ (.int .u64 0)).setCell ⟨w.heap.size, 7, none⟩ (.int .i64 0)).setCell ⟨w.heap.size, 8, none⟩ (.pointer none)).setCell ⟨w.heap.size, 9, none⟩ (.int .i64 0)).setCell ⟨w.heap.size, 10, none⟩ (.int .u64 0)).setCell ⟨w.heap.size, 11, none⟩ (.int .i64 0)).setCell ⟨w.heap.size, 12, none⟩ (.pointer none)).setCell ⟨w.heap.size, 13, none⟩ (.string ⟨#[]⟩)) (some S)) := F4.andThen FS.2 (fun j e => by cases e; left; exact Nat.le_refl _)
    obtain ⟨c0, c1, c2, c3, c4, c5, c6, c7, c8, c9, c10, c11, c12, c13⟩ := blkS F1
    obtain ⟨b0, b1, b2, b3, b4, b5, b6, b7, b8, b9, b10, b11, b12, b13, q0, q1, q2, q3, q4, q5, q6, q7, q8, q9, q10, q11, q12, q13⟩ := blk14 F2
    clear FS F1 F2 F3 F4
    go_wp2
    refine leaves_cons (f := 47) (args := #[.pointer (some ⟨S, 0, none⟩)]) (by simp) (by simp [go_sem]) ?_
    refine (runlock_any S B u v s .returning _ HF2.out).mono ?_
    rintro e u' w9 ⟨rfl, rfl, hS9, hg9⟩
    refine ⟨_, res28 _ w9 w.heap.size #[.string p.1, .string p.2, .int .u8 0, .int .u8 0, .pointer none, .string ⟨#[]⟩, .int .u64 0, .int .i64 0, .pointer none, .int .i64 0, .int .u64 0, .int .i64 0, .pointer none, .string ⟨#[]⟩] rfl rfl rfl ((hg9.block _ ?_ (fun e => hneS (Option.some.inj e))).trans HF1.out), rfl, hS9, HF3.out.andThen hg9 (fun j e => .inr e)⟩
    exact (Array.getElem?_eq_some_iff.1 HF1.out).1

end Go.Proofs.Qxb6608833a
