import Derived.Test.Qxb6608833aSortOrder
import Derived.Test.Qxb6608833aLocks
import Derived.Conc.RwLoneW
namespace Go.Proofs.Qxb6608833a
open Go.RowKit

theorem lock_any (S : Nat) (B u : Nat) (v : Value) (s : Bool) (w : World) (h : StoreAt w S 0 0 B u v s) :
    Calls Try.prog 41 #[.pointer (some ⟨S, 0, none⟩)] w fun e w' => e = .returned (.tuple #[]) ∧ StoreAt w' S 1 (-1073741824) B u v s ∧ w.grownBy w' (some S) := by
  have hcon := Go.RwLone.wlock_free Try.rwWLib S 0 (.int .u32 0) (.int .u32 0) w (h.cell 0) (h.cell 2) (h.cell 3) (h.cell 4) (h.frozen 0) (h.frozen 4)
  change Calls Try.prog 41 _ _ _ at hcon
  refine hcon.mono ?_
  rintro e w' ⟨rfl, rfl⟩
  refine ⟨rfl, (h.state 1).count _, ?_⟩
  exact (grownBy_setCell w ⟨S, 0, none⟩ (.int .i32 1)).andThen (grownBy_setCell _ ⟨S, 4, none⟩ _) (fun j e => .inr e)

theorem unlock_any (S : Nat) (B u : Nat) (v : Value) (s : Bool) (w : World) (h : StoreAt w S 1 (-1073741824) B u v s) :
    Calls Try.prog 43 #[.pointer (some ⟨S, 0, none⟩)] w fun e w' => e = .returned (.tuple #[]) ∧ StoreAt w' S 0 0 B u v s ∧ w.grownBy w' (some S) := by
  have hcon := Go.RwLone.wunlock_held Try.rwWLib S 0 (.int .u32 0) (.int .u32 0) w (h.cell 0) (h.cell 2) (h.cell 3) (h.cell 4) (h.frozen 0) (h.frozen 4)
  change Calls Try.prog 43 _ _ _ at hcon
  refine hcon.mono ?_
  rintro e w' ⟨rfl, rfl⟩
  refine ⟨rfl, (h.count 0).state 0, ?_⟩
  exact (grownBy_setCell w ⟨S, 4, none⟩ (.int .i32 0)).andThen (grownBy_setCell _ ⟨S, 0, none⟩ _) (fun j e => .inr e)

set_option maxHeartbeats 1000000 in
theorem zzSort_any (S : Nat) (B u : Nat) (a : Option Addr) (n cap m base : Nat) (D : DataW Unit) (ks : List Key) (xs : List Value) (w : World)
    (hS : StoreAt w S 0 0 B u (.slice a n cap) false) (hrow : w.ownsRow base 103 2 (.slice a n cap) n xs) (hM : w.ownsMap Try.prog 103 RS B m D) (hmk : MK D ks) (hmb : m ≤ 1048577) (hz : Sz ks) :
    Calls Try.prog 22 #[.pointer (some ⟨S, 0, none⟩)] w fun e w' => ∃ ks' a' cap', e = .returned (.tuple #[]) ∧ Asc ks' ∧ (∀ p, p ∈ ks' ↔ p ∈ ks) ∧ ks'.length ≤ m ∧ StoreAt w' S 0 0 B u (.slice a' ks'.length cap') true ∧ KRow w' a' ks' ∧ w'.ownsMap Try.prog 103 RS B m D ∧ Kept (fun k => k = S ∨ (Value.slice a n cap).ownBlock = some k) w w' := by
  have hneS := own_ne_store hrow hS
  have hneM := store_ne_map hS hM
  go_enter Try.func22, Try.ntmps22
  go_wp2_with fail
  refine (lock_any S B u _ _ w hS).mono ?_
  rintro e w1 ⟨rfl, hS1, hg1⟩
  have hrow1 := hrow.kept hg1 (.inr hneS)
  have hM1 := hM.kept hg1 (fun e => hneM (Option.some.inj e).symm)
  go_wp2_with fail
  refine (sortOrder_any S 1 (-1073741824) B u a n cap m base D ks xs w1 hS1 hrow1 hM1 hmk hmb hz).mono ?_
  rintro e w2 ⟨ks', a', cap', rfl, hasc, hmem, hlen, hS2, hkr2, hnb, hM2, hk2⟩
  go_wp2_with fail
  refine (unlock_any S B u _ _ w2 hS2).mono ?_
  rintro e w3 ⟨rfl, hS3, hg3⟩
  have hkr3 : KRow w3 a' ks' := by
    rcases hkr2 with e | ⟨b, off, e, hb, hc⟩
    · exact .inl e
    · have hx := hnb b off e
      rw [e]
      exact (Kept.grown hg3).krow (fun e => hx (Option.some.inj e).symm) (.inr ⟨b, off, rfl, hb, hc⟩)
  have hM3 := hM2.kept hg3 (fun e => hneM (Option.some.inj e).symm)
  have hk3 := (((Kept.refl (fun k => k = S ∨ (Value.slice a n cap).ownBlock = some k) w).trans (Kept.grown hg1) (fun j _ e => .inl (Option.some.inj e).symm)).trans hk2 (fun j _ e => e)).trans (Kept.grown hg3) (fun j _ e => .inl (Option.some.inj e).symm)
  go_wp2
  go_end0
  exact ⟨ks', a', cap', rfl, hasc, hmem, hlen, hS3, hkr3, hM3, hk3⟩

end Go.Proofs.Qxb6608833a
