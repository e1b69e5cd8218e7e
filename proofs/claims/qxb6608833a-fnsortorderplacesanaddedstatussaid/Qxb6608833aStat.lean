import Derived.Test.Qxb6608833aMapK
import Derived.Deep.AppendLies
namespace Go.Proofs.Qxb6608833a
open Go.RowKit

theorem ownsMap_below {w w' : World} {b n : Nat} {D : DataW Unit} (h : w.ownsMap Try.prog 103 RS b n D) (hb : Below w.heap.size w w') : w'.ownsMap Try.prog 103 RS b n D :=
  h.kept (row := none) ⟨hb.os, hb.tape, hb.output, hb.size, fun k hk _ => hb.block k hk⟩ (by simp)

set_option maxRecDepth 100000 in
set_option maxHeartbeats 2000000 in
theorem buildStatuses_any (a : Option Addr) (cap : Nat) (ks : List Key) (w : World) (hl : ks.length ≤ 1048577) (hs : Sz ks) (hR : KRow w a ks) :
    Calls Try.prog 20 #[.slice a ks.length cap] w fun e w' => ∃ D, e = .returned (.map (some w.heap.size)) ∧ w'.ownsMap Try.prog 103 RS w.heap.size ks.length D ∧ MK D ks ∧ Below w.heap.size w w' := by
  have hmm := @run_makeMap Try.prog
  have hB : Below w.heap.size w (w.alloc (.map #[] 0)) := (Below.refl _ _).alloc (Nat.le_refl _) _
  have hM := World.ownsMap_made w Try.prog 103 RS
  go_enter Try.func20, Try.ntmps20
  go_wp2
  go_loopw [4] (fun i wr => ∃ (k : Nat) (D : DataW Unit), k ≤ ks.length ∧ i = .int .i64 k ∧ MK D (ks.take k) ∧ wr.ownsMap Try.prog 103 RS w.heap.size k D ∧ Below w.heap.size w wr) (fun i _ => ks.length - (intOf i).toNat)
  case atStart => exact ⟨0, .map [], Nat.zero_le _, rfl, MK.nil, hM, hB⟩
  case round =>
    obtain ⟨k, D, hk, rfl, hmk, hown, hnx⟩ := hrel
    clear hB hM
    by_cases hlt : k < ks.length
    · rcases hR with rfl | ⟨b, off, rfl, hb, hc⟩
      · simp at hlt
      have x0 := (hnx.cell (p := ⟨b, off + k * 2, none⟩) hb).trans (hc k hlt).1
      have x1 := (hnx.cell (p := ⟨b, off + k * 2 + 1, none⟩) hb).trans (hc k hlt).2
      have hbr : b < wr.heap.size := Nat.lt_of_lt_of_le hb hnx.size
      have s0 := hs.at k hlt
      have HK : ∀ kl, KL (ks[k]?.getD nk) kl → MK (D.put kl (datum (ks[k]?.getD nk))) (ks.take (k + 1)) := fun kl h => by
        have := hmk.put h
        rw [List.take_succ_eq_append_getElem hlt]
        rwa [List.getElem?_eq_getElem hlt] at this ⊢
      generalize ks[k]?.getD nk = p at *
      obtain ⟨kl, hkl⟩ := KL.mk p (by unfold maxLen; exact s0.1) (by unfold maxLen; exact s0.2)
      have HK' : Hid (MK (D.put kl (datum p)) (ks.take (k + 1))) := HK kl hkl
      have hgr : w.heap.size < wr.heap.size := hown.lt
      have HO : Hid (wr.ownsMap Try.prog 103 RS w.heap.size k D) := hown
      have hklH : Hid (keyOf Try.prog 103 (.agg #[.string p.1, .string p.2]) = some kl) := hkl
      have i0' : (0 : Int) ≤ (k : Int) := by omega
      have i1' : (k : Int) < (ks.length : Int) := by omega
      have hne : w.heap.size ≠ b := by omega
      have hn : k < maxLen := by unfold maxLen; omega
      clear hc HK hmk hown hkl
      generalize hG : w.heap.size = G at *
      have UP : Hid (∀ (w' : World) (_ : w'.ownsMap Try.prog 103 RS G k D), ∃ w2, (Instr.mapUpdate 38 (.map (some G)) (.agg #[.string p.1, .string p.2]) (.agg #[.string p.1, .string p.2, .int .u8 0, .int .u8 0, .pointer none, .string ⟨#[]⟩, .int .u64 0, .int .i64 0, .pointer none, .int .i64 0, .int .u64 0, .int .i64 0, .pointer none, .string ⟨#[]⟩])).run Try.prog w' = .ok () w2 ∧ w2.ownsMap Try.prog 103 RS G (k + 1) (D.put kl (datum p)) ∧ w'.grownBy w2 (some G)) := fun w' o => o.update (t := 38) (e := 58) Try.keyed103 Try.underlying38 hn hklH.out (d := datum p) (ps := []) (RS_mk p)
      go_wp2
      have BB : Below wr.heap.size wr wr.drew := (Below.refl _ _).drew
      go_region_held3 (fun w' => w'.cell? ⟨b, off + k * 2, none⟩ = some (.string p.1) ∧ w'.cell? ⟨b, off + k * 2 + 1, none⟩ = some (.string p.2)) (first | (refine ⟨?_, ?_⟩ <;> (rw [hc2, hc']; assumption)) | (refine ⟨?_, ?_⟩ <;> (rw [hc']; assumption)) | (refine ⟨?_, ?_⟩ <;> go_simp) | go_keep) (first | (go_at_call 40; refine (makeKey_any p.1 p.2 _).mono ?_; rintro e w' ⟨rfl, hb'⟩; replace BB := BB.trans (hb'.mono BB.size); have hc' : ∀ o, w'.cell? ⟨b, o, none⟩ = wr.cell? ⟨b, o, none⟩ := fun o => BB.cell (p := ⟨b, o, none⟩) hbr; obtain ⟨w2, hrun, hown2, hgr2⟩ := UP.out w' (ownsMap_below HO.out BB); have hc2 : ∀ o, w2.cell? ⟨b, o, none⟩ = w'.cell? ⟨b, o, none⟩ := fun o => hgr2.cell_far ⟨b, o, none⟩ (Nat.lt_of_lt_of_le hbr BB.size) (by simp; omega)))
      have R2 : Below G w w2 := (hnx.trans (BB.mono (Nat.le_of_lt hgr))).grown hgr2 (Nat.le_trans (Nat.le_of_lt hgr) BB.size) (fun k e => by cases e; exact Nat.le_refl _)
      go_wp2
      go_roundw
      case rel => exact ⟨k + 1, _, by omega, by go_num, HK'.out, hown2, R2⟩
      case measure => simp [intOf]; omega
    · obtain rfl : k = ks.length := by omega
      rw [List.take_length] at hmk
      go_wp2
      go_ret
      exact ⟨D, rfl, hown, hmk, hnx⟩

end Go.Proofs.Qxb6608833a
