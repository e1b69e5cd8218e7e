import Derived.Test.Qxb6608833aCmp
import Derived.Deep.RegionHeld3
namespace Go.Proofs.Qxb6608833a
open Go.RowKit

abbrev nk : Key := (⟨#[]⟩, ⟨#[]⟩)
/-- Every string of the keys has a length that a string can have. -/
def Sz (ks : List Key) : Prop := ∀ k ∈ ks, k.1.size ≤ 9223372036854775807 ∧ k.2.size ≤ 9223372036854775807

/-- A slice of keys: there are none; or they lie in a block of the heap, two cells a key. -/
def KRow (w : World) (a : Option Addr) (ks : List Key) : Prop :=
  ks = [] ∨ ∃ b off, a = some ⟨b, off, none⟩ ∧ b < w.heap.size ∧ ∀ j, j < ks.length → w.cell? ⟨b, off + j * 2, none⟩ = some (.string (ks[j]?.getD nk).1) ∧ w.cell? ⟨b, off + j * 2 + 1, none⟩ = some (.string (ks[j]?.getD nk).2)

theorem KRow.below {w w' : World} (h : Below w.heap.size w w') {a : Option Addr} {ks : List Key} : KRow w a ks → KRow w' a ks
  | .inl e => .inl e
  | .inr ⟨b, off, e, hb, hc⟩ => .inr ⟨b, off, e, Nat.lt_of_lt_of_le hb h.size, fun j hj => ⟨(h.cell (p := ⟨b, off + j * 2, none⟩) hb).trans (hc j hj).1, (h.cell (p := ⟨b, off + j * 2 + 1, none⟩) hb).trans (hc j hj).2⟩⟩

theorem Sz.at {ks : List Key} (h : Sz ks) (j : Nat) (hj : j < ks.length) : (ks[j]?.getD nk).1.size ≤ 9223372036854775807 ∧ (ks[j]?.getD nk).2.size ≤ 9223372036854775807 := by
  rw [List.getElem?_eq_getElem hj]; exact h _ (List.getElem_mem _)

/-- the first k steps ascend -/
def ascTo (ks : List Key) (k : Nat) : Prop := ∀ j, j < k → cmpK (ks[j]?.getD nk) (ks[j + 1]?.getD nk) < 0

theorem bcell {W w1 : World} (hb : Below W.heap.size W w1) : (∀ b o, b < W.heap.size → w1.cell? ⟨b, o, none⟩ = W.cell? ⟨b, o, none⟩) ∧ (∀ b o, b < W.heap.size → w1.frozen? ⟨b, o, none⟩ = W.frozen? ⟨b, o, none⟩) :=
  ⟨fun b o h => hb.cell (p := ⟨b, o, none⟩) h, fun b o h => hb.frozen (p := ⟨b, o, none⟩) h⟩

theorem wrap_pred (m k : Nat) (h : m = k + 1) (hk : k ≤ 1048577) : IntKind.i64.wrap ((m : Int) - 1) = (k : Int) := by
  rw [IntWalk.i64_in _ (by omega)]; omega

/-- 'ascTo' step by step, and at the end. -/
theorem asc_of_to (ks : List Key) (h : ascTo ks (ks.length - 1)) : Asc ks := by
  induction ks with
  | nil => exact List.Pairwise.nil
  | cons a l ih =>
    have hl : Asc l := by
      apply ih
      intro j hj
      have := h (j + 1) (by simp; omega)
      simpa using this
    refine List.pairwise_cons.2 ⟨fun b hb => ?_, hl⟩
    cases l with
    | nil => cases hb
    | cons c l =>
      have h0 : cmpK a c < 0 := by have := h 0 (by simp); simpa using this
      rcases List.mem_cons.1 hb with rfl | hb
      · exact h0
      · exact cmpK_trans h0 ((List.pairwise_cons.1 hl).1 b hb)

/-- strictlyAscending's answer -/
def ascB (ks : List Key) : Bool := decide (ks.Pairwise fun a b => cmpK a b < 0)
theorem ascB_yes {ks : List Key} (h : Asc ks) : ascB ks = true := decide_eq_true h
theorem ascB_no {ks : List Key} (h : ¬ Asc ks) : ascB ks = false := decide_eq_false h
theorem ascB_iff (ks : List Key) : ascB ks = true ↔ Asc ks := by unfold ascB Asc; exact decide_eq_true_iff
theorem rb {a b : Bool} (h : a = b) : Ending.returned (.bool a) = .returned (.bool b) := by rw [h]

set_option maxRecDepth 100000 in
set_option maxHeartbeats 2000000 in
theorem ascending_any (a : Option Addr) (cap : Nat) (ks : List Key) (w : World) (hl : ks.length ≤ 1048577) (hs : Sz ks) (hR : KRow w a ks) :
    Calls Try.prog 18 #[.slice a ks.length cap] w fun e w' => e = .returned (.bool (ascB ks)) ∧ Below w.heap.size w w' := by
  go_enter Try.func18, Try.ntmps18
  go_wp2
  go_loopw [3] (fun i wr => ∃ m : Nat, i = .int .i64 m ∧ 1 ≤ m ∧ m ≤ ks.length + 1 ∧ ascTo ks (m - 1) ∧ Below w.heap.size w wr) (fun i _ => ks.length + 1 - (intOf i).toNat)
  case atStart => exact ⟨1, rfl, by omega, by omega, fun j hj => by omega, Below.refl _ _⟩
  case round =>
    obtain ⟨m, rfl, hm1, hm, hasc, hnx⟩ := hrel
    have HA : Hid (ascTo ks (m - 1)) := hasc
    clear hasc
    by_cases hlt : m < ks.length
    · rcases hR with rfl | ⟨b, off, rfl, hb, hc⟩
      · simp at hlt
      obtain ⟨k, hmk⟩ : ∃ k, m = k + 1 := ⟨m - 1, by omega⟩
      have x0 := (hnx.cell (p := ⟨b, off + k * 2, none⟩) hb).trans (hc k (by omega)).1
      have x1 := (hnx.cell (p := ⟨b, off + k * 2 + 1, none⟩) hb).trans (hc k (by omega)).2
      have y0 := (hnx.cell (p := ⟨b, off + m * 2, none⟩) hb).trans (hc m (by omega)).1
      have y1 := (hnx.cell (p := ⟨b, off + m * 2 + 1, none⟩) hb).trans (hc m (by omega)).2
      have s0 := hs.at k (by omega)
      have s1 := hs.at m (by omega)
      have e1 := wrap_pred m k hmk (by omega)
      have i0 : (0 : Int) ≤ (k : Int) := by omega
      have i1 : (k : Int) < (ks.length : Int) := by omega
      have i2 : (0 : Int) ≤ (m : Int) := by omega
      have i3 : (m : Int) < (ks.length : Int) := by omega
      have hbr : b < wr.heap.size := Nat.lt_of_lt_of_le hb hnx.size
      have HM : Hid (m = k + 1) := hmk
      have HN : Hid (ascTo ks (m - 1) → cmpK (ks[k]?.getD nk) (ks[m]?.getD nk) < 0 → ascTo ks m) := by
        intro h1 h2 j hj
        by_cases e : j = k
        · subst e; rw [← hmk]; exact h2
        · exact h1 j (by omega)
      have HO : Hid (Asc ks → cmpK (ks[k]?.getD nk) (ks[m]?.getD nk) < 0) := by
        intro h
        have := List.pairwise_iff_getElem.1 h k m (by omega) (by omega) (by omega)
        rw [List.getElem?_eq_getElem (by omega), List.getElem?_eq_getElem (by omega)]; exact this
      clear hmk
      generalize ks[k]?.getD nk = p at *
      generalize ks[m]?.getD nk = q at *
      clear hc
      go_wp2
      go_region_held3 (fun w' => w'.cell? ⟨b, off + k * 2, none⟩ = some (.string p.1) ∧ w'.cell? ⟨b, off + k * 2 + 1, none⟩ = some (.string p.2) ∧ w'.cell? ⟨b, off + m * 2, none⟩ = some (.string q.1) ∧ w'.cell? ⟨b, off + m * 2 + 1, none⟩ = some (.string q.2)) (first | (refine ⟨?_, ?_, ?_, ?_⟩ <;> (rw [hc']; assumption)) | (refine ⟨?_, ?_, ?_, ?_⟩ <;> go_simp)) (first | (go_at_call 39; refine (cmpKey_any p q _ s0.1 s0.2 s1.1 s1.2).mono ?_; rintro e w' ⟨rfl, hb'⟩; have hc' : ∀ o, w'.cell? ⟨b, o, none⟩ = wr.cell? ⟨b, o, none⟩ := fun o => hb'.cell (p := ⟨b, o, none⟩) hbr))
      have hd : Below w.heap.size w w' := by
        refine hnx.trans (Below.trans ?_ (hb'.mono ?_))
        · exact (Below.refl _ _).drew
        · exact hnx.size
      by_cases hneg : cmpK p q < 0
      · go_wp2
        go_roundw
        case rel => exact ⟨m + 1, by go_num, by omega, by omega, HN.out HA.out hneg, hd⟩
        case measure => simp [intOf]; omega
      · go_wp2
        go_ret
        exact ⟨rb (by rw [ascB_no (fun h => by have := HO.out h; omega)]), hd⟩
    · go_wp2
      go_ret
      have h1 := asc_of_to ks (fun j hj => HA.out j (by omega))
      exact ⟨rb (by rw [ascB_yes h1]), hnx⟩

end Go.Proofs.Qxb6608833a
