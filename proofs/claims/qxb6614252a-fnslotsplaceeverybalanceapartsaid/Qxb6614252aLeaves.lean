import Derived.Test.Qxb6614252aRows
import Derived.WalkKit
import Derived.Below
import Derived.Deep.RegionHeld3
namespace Go.Proofs.Qxb6614252a
open Go.RowKit

/-- How many pages the accounts take. -/
def apg (nb : Int) : Int := (nb * 100000 + 508) / 509

theorem ri {k : IntKind} {a b : Int} (h : a = b) : Ending.returned (.int k a) = .returned (.int k b) := by rw [h]

abbrev lay (nb : Int) : Obj := .cells #[.int .i64 nb] 34

set_option maxHeartbeats 400000 in
theorem accounts_any (nb : Int) (w : World) (h0 : 0 ≤ nb) (h1 : nb ≤ 20000) :
    Calls Try.prog 14 #[.agg #[.int .i64 nb]] w fun e w' => e = .returned (.int .i64 (nb * 100000)) ∧ w' = w.alloc (lay nb) := by
  go_enter Try.func14, Try.ntmps14
  go_wp2
  go_ret
  exact ⟨rfl, rfl⟩

set_option maxHeartbeats 400000 in
theorem accountPages_any (nb : Int) (w : World) (h0 : 0 ≤ nb) (h1 : nb ≤ 20000) :
    Calls Try.prog 10 #[.agg #[.int .i64 nb]] w fun e w' => e = .returned (.int .i64 (apg nb)) ∧ w' = (w.alloc (lay nb)).alloc (lay nb) := by
  go_enter Try.func10, Try.ntmps10
  go_wp2_with (go_at_call 14; refine (accounts_any nb _ h0 h1).mono ?_; rintro e w' ⟨rfl, rfl⟩)
  go_ret
  exact ⟨ri (by unfold apg; omega), rfl⟩

theorem apg_bd (nb : Int) (h0 : 0 ≤ nb) (h1 : nb ≤ 20000) : 0 ≤ apg nb ∧ apg nb ≤ 4000000 := by unfold apg; omega

set_option maxHeartbeats 400000 in
theorem pages_any (nb : Int) (w : World) (h0 : 0 ≤ nb) (h1 : nb ≤ 20000) :
    Calls Try.prog 8 #[.agg #[.int .i64 nb]] w fun e w' => e = .returned (.int .i64 (apg nb + 2 * nb)) ∧ Below w.heap.size w w' := by
  have ha := apg_bd nb h0 h1
  have k1 : IntKind.i64.wrap (2 * nb) = 2 * nb := IntWalk.i64_in _ (by omega)
  have k2 : IntKind.i64.wrap (apg nb + 2 * nb) = apg nb + 2 * nb := IntWalk.i64_in _ (by omega)
  go_enter Try.func8, Try.ntmps8
  go_wp2
  go_region_held3 (fun w' => w'.cell? ⟨w.heap.size, 0, none⟩ = some (.int .i64 nb)) (go_keep) (first | (go_at_call 10; refine (accountPages_any nb _ h0 h1).mono ?_; rintro e w' ⟨rfl, rfl⟩))
  go_wp2
  go_ret
  exact ⟨rfl, ((((Below.refl _ w).alloc (Nat.le_refl _) _).alloc (by simp) _).alloc (by simp; omega) _).drew⟩

abbrev slotO (p i : Int) : Obj := .cells #[.int .u32 p, .int .i64 i] 43
abbrev slotV (p i : Int) : Value := .agg #[.int .u32 p, .int .i64 i]

set_option maxHeartbeats 400000 in
theorem account_any (nb a : Int) (w : World) (h0 : 0 ≤ a) (h1 : a < 2000000000) :
    Calls Try.prog 11 #[.agg #[.int .i64 nb], .int .i64 a] w fun e w' => e = .returned (slotV (a / 509) (a % 509)) ∧ w' = (w.alloc (lay nb)).alloc (slotO (a / 509) (a % 509)) := by
  go_enter Try.func11, Try.ntmps11
  go_wp2
  exact bodyPost_ret (v := slotV (a / 509) (a % 509)) (by simp [results, Try.results11, go_sem]) rfl ⟨rfl, rfl⟩

set_option maxHeartbeats 400000 in
theorem teller_any (nb t : Int) (w : World) (h0 : 0 ≤ nb) (h1 : nb ≤ 20000) (h2 : 0 ≤ t) (h3 : t < 200000) :
    Calls Try.prog 12 #[.agg #[.int .i64 nb], .int .i64 t] w fun e w' => e = .returned (slotV (apg nb + t / 10) (t % 10)) ∧ w' = (((w.alloc (lay nb)).alloc (slotO (apg nb + t / 10) (t % 10))).alloc (lay nb)).alloc (lay nb) := by
  have ha := apg_bd nb h0 h1
  go_enter Try.func12, Try.ntmps12
  go_wp2_with (go_at_call 10; refine (accountPages_any nb _ h0 h1).mono ?_; rintro e w' ⟨rfl, rfl⟩)
  exact bodyPost_ret (v := slotV (apg nb + t / 10) (t % 10)) (by simp [results, Try.results12, go_sem]) rfl ⟨rfl, rfl⟩

set_option maxHeartbeats 400000 in
theorem branch_any (nb b : Int) (w : World) (h0 : 0 ≤ nb) (h1 : nb ≤ 20000) (h2 : 0 ≤ b) (h3 : b < 20000) :
    Calls Try.prog 13 #[.agg #[.int .i64 nb], .int .i64 b] w fun e w' => e = .returned (slotV (apg nb + nb + b) 0) ∧ w' = ((((w.alloc (lay nb)).alloc (slotO (apg nb + nb + b) 0)).alloc (lay nb)).alloc (lay nb)).drew := by
  have ha := apg_bd nb h0 h1
  have k1 : IntKind.i64.wrap (apg nb + nb) = apg nb + nb := IntWalk.i64_in _ (by omega)
  have k2 : IntKind.i64.wrap (apg nb + nb + b) = apg nb + nb + b := IntWalk.i64_in _ (by omega)
  have k3 : IntKind.u32.wrap (apg nb + nb + b) = apg nb + nb + b := IntWalk.u32_in _ (by omega)
  go_enter Try.func13, Try.ntmps13
  go_wp2
  go_region_held3 (fun w' => w'.cell? ⟨w.heap.size, 0, none⟩ = some (.int .i64 nb)) (go_keep) (first | (go_at_call 10; refine (accountPages_any nb _ h0 h1).mono ?_; rintro e w' ⟨rfl, rfl⟩))
  go_wp2
  exact bodyPost_ret (v := slotV (apg nb + nb + b) 0) (by simp [results, Try.results13, go_sem]) rfl ⟨rfl, rfl⟩

end Go.Proofs.Qxb6614252a
