import Derived.Test.Qxb6608833aLeaves
namespace Go.Proofs.Qxb6608833a
open Go.RowKit

theorem Try.info24 : (Try.prog.info? 24).map (fun i => (i.zero, i.size, i.bytes)) = some (some (.int .u8 0), 1, 1) := by kernel_rfl

/-- The cells when k rounds are over. -/
def filled (zs : List Int) (k : Nat) : List Value := (zs.take k).map (Value.int .u8) ++ List.replicate (zs.length - k) (Value.int .u8 0)
theorem filled_length (zs : List Int) (k : Nat) (hk : k ≤ zs.length) : (filled zs k).length = zs.length := by simp [filled]; omega
theorem filled_all (zs : List Int) : filled zs zs.length = zs.map (Value.int .u8) := by simp [filled]
theorem filled_succ (zs : List Int) (k : Nat) (hk : k < zs.length) : (filled zs k).set k (.int .u8 (zs[k]?.getD 0)) = filled zs (k + 1) := by
  unfold filled
  rw [List.set_append_right _ _ (by simp; omega)]
  rw [List.take_succ_eq_append_getElem hk, List.getElem?_eq_getElem hk]
  have e : zs.length - k = (zs.length - (k + 1)) + 1 := by omega
  rw [e, List.replicate_succ]
  simp only [List.length_map, List.length_take, Nat.min_eq_left (Nat.le_of_lt hk), Nat.sub_self, List.set_cons_zero, List.map_append, List.map_cons, List.map_nil, List.append_assoc, List.singleton_append, Option.getD_some]

theorem row_of_owned {w : World} {base g cap : Nat} {zs : List Int} (h : w.ownsRow base 24 1 (.slice (some ⟨g, 0, none⟩) zs.length cap) zs.length (zs.map (Value.int .u8))) : Row w (some ⟨g, 0, none⟩) zs := by
  refine .inr ⟨g, 0, rfl, (h.lt g rfl).2, fun j hj => ?_⟩
  rw [Nat.zero_add, h.cellAt j (by omega)]
  simp [List.getElem?_eq_getElem hj]

set_option maxHeartbeats 400000 in
theorem toColors_any (a : Option Addr) (cap : Nat) (zs : List Int) (w : World) (hl : zs.length ≤ 1048576) (hR : Row w a zs) :
    Calls Try.prog 11 #[.slice a zs.length cap] w fun e w' => e = .returned (.slice (some ⟨w.heap.size, 0, none⟩) zs.length zs.length) ∧ Row w' (some ⟨w.heap.size, 0, none⟩) zs ∧ Below w.heap.size w w' := by
  obtain ⟨i0, hi, hz0, hz1, hz2⟩ := info_parts Try.info24
  go_enter Try.func11, Try.ntmps11
  go_wp2_with (at_make; refine wpList_make_full _ rfl _ _ 26 rfl w.heap.size 24 i0 (.int .u8 0) 1 Try.underlying26 hi hz0 hz1 _ _ _ _ zs.length rfl rfl rfl rfl (by rw [hz2]; omega) (by unfold maxLen; omega) (Nat.le_refl _) ?_; intro w1 hown hgrow)
  have hB : Below w.heap.size w w1 := (Below.refl _ _).grown hgrow (Nat.le_refl _) (fun k e => by cases e)
  have hown1 : w1.ownsRow w.heap.size 24 1 (.slice (some ⟨w.heap.size, 0, none⟩) zs.length zs.length) zs.length (filled zs 0) := by
    have e : (madeCells (Value.int .u8 0).cells (zs.length * 1)).toList = filled zs 0 := by
      simp [filled, Value.cells, toList_madeCells_one]
    rw [← e]; exact hown
  clear hown hgrow
  go_loopw [4] (fun i wr => ∃ k : Nat, k ≤ zs.length ∧ i = .int .i64 k ∧ wr.ownsRow w.heap.size 24 1 (.slice (some ⟨w.heap.size, 0, none⟩) zs.length zs.length) zs.length (filled zs k) ∧ Below w.heap.size w wr) (fun i _ => zs.length - (intOf i).toNat)
  case atStart => exact ⟨0, Nat.zero_le _, rfl, hown1, hB⟩
  case round =>
    obtain ⟨k, hk, rfl, hown, hnx⟩ := hrel
    clear hown1 hB
    by_cases hlt : k < zs.length
    · rcases hR with rfl | ⟨b, off, rfl, hb, hc⟩
      · simp at hlt
      have hcx : wr.cell? ⟨b, off + k, none⟩ = some (.int .u8 (zs[k]?.getD 0)) := (hnx.cell (p := ⟨b, off + k, none⟩) hb).trans (hc k hlt)
      have hfs := filled_succ zs k hlt
      have hst := (hown.stored k (.int .u8 (zs[k]?.getD 0))).1
      rw [hfs] at hst
      have hcl := hown.cellAt k (by omega)
      have hfr := hown.frozenAt k
      obtain ⟨old, hold⟩ : ∃ old, (filled zs k)[k]? = some old := ⟨_, List.getElem?_eq_getElem (by rw [filled_length _ _ hk]; exact hlt)⟩
      rw [hold] at hcl
      clear hfs hold
      generalize zs[k]?.getD 0 = x at hcx hst
      clear hc hown
      go_wp2
      go_roundw
      case rel => exact ⟨k + 1, by omega, by go_num, hst, hnx.setCell (p := ⟨w.heap.size, k, none⟩) (Nat.le_refl _) _⟩
      case measure => simp [intOf]; omega
    · obtain rfl : k = zs.length := by omega
      rw [filled_all] at hown
      go_wp2
      go_ret
      exact ⟨rfl, row_of_owned hown, hnx⟩

end Go.Proofs.Qxb6608833a
