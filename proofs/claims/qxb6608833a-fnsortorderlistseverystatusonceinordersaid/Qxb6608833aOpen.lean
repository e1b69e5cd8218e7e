import Derived.Test.Qxb6608833aKRows
import Derived.WalkKit
import Derived.ProofKit
import Derived.OpenShut
import Derived.ShutString
import Derived.ChangeOld
import Derived.Deep.SlicePairs
namespace Go.Proofs.Qxb6608833a
open Go.ChangeShapes Go.WideShapes Go.ChangeAt Go.RowKit

theorem ocells47 : Try.prog.cellsOf 47 = 2 := by kernel_rfl
theorem ocells9 : Try.prog.cellsOf 9 = 1 := by kernel_rfl

/-- A slice of keys that came in. -/
theorem open_keys {H : Type} {enc : TypeId × Value → H} {W : World} {a : Option Addr} {len cap : Nat} {d : DataW H} {p : List MemPlace}
    (h : DataW.Trod enc Try.prog W 0 (fun _ => true) true 32 (.slice a len cap) d p) :
    ∃ ks : List Key, ks.length = len ∧ len ≤ maxLen ∧ Sz ks ∧ KRow W a ks ∧ (a = none → len = 0 ∧ cap = 0) := by
  obtain ⟨fuel, hf⟩ := h
  rcases Go.Deep.open_slice_pairs Try.underlying32 Try.underlying47 ocells47 rfl rfl ocells9 ocells9 hf with ⟨hcs, _⟩ | ⟨x, l, c, m, n, V0, V1, D0, D1, P0, P1, hcs, _, hl, hm, hmm, _, hx⟩
  · simp [Value.cells] at hcs
    obtain ⟨rfl, rfl, rfl⟩ := hcs
    exact ⟨[], rfl, Nat.zero_le _, fun k hk => (nomatch hk), .inl rfl, fun _ => ⟨rfl, rfl⟩⟩
  · simp [Value.cells] at hcs
    obtain ⟨rfl, rfl, rfl⟩ := hcs
    simp only [if_true] at hmm
    subst hmm
    have each : ∀ i, i < m → ∃ q : Key, V0 i = .string q.1 ∧ V1 i = .string q.2 ∧ q.1.size ≤ maxLen ∧ q.2.size ≤ maxLen := by
      intro i hi
      obtain ⟨_, _, h0, h1⟩ := hx i hi
      obtain ⟨s, e0, _, hs⟩ := DataW.trod_string Try.underlying9 h0
      obtain ⟨s', e1, _, hs'⟩ := DataW.trod_string Try.underlying9 h1
      simp only [List.cons.injEq, and_true] at e0 e1
      exact ⟨(s, s'), e0, e1, hs, hs'⟩
    obtain ⟨q, hq⟩ := Go.Deep.choose_lt each
    have hget : ∀ j, j < len → ((List.range len).map q)[j]?.getD nk = q j := by
      intro j hj
      rw [List.getElem?_eq_getElem (by simpa using hj)]
      simp
    refine ⟨(List.range len).map q, by simp, Nat.le_trans hl hm, fun k hk => ?_, ?_, fun e => (nomatch e)⟩
    · obtain ⟨i, hi, rfl⟩ := List.mem_map.1 hk
      have hi' := List.mem_range.1 hi
      have := hq i (by omega)
      unfold maxLen at this
      exact ⟨this.2.2.1, this.2.2.2⟩
    · by_cases h0 : len = 0
      · subst h0; exact .inl rfl
      · obtain ⟨b, off, spot⟩ := x
        have k0 := (hx 0 (by omega)).1
        have hspot : spot = none := by simpa [Addr.add] using World.cell?_spot k0
        subst hspot
        refine .inr ⟨b, off, rfl, ?_, fun j hj => ?_⟩
        · exact World.block_lt_of_cell? W ⟨b, off, none⟩ (by simpa [Addr.add_lit] using k0)
        · have hj' : j < len := by simpa using hj
          have g0 := (hx j (by omega)).1
          have g1 := (hx j (by omega)).2.1
          rw [Addr.add_lit] at g0 g1
          rw [hget j hj', ← (hq j (by omega)).1, ← (hq j (by omega)).2.1]
          exact ⟨g0, by rw [Nat.add_assoc]; exact g1⟩

end Go.Proofs.Qxb6608833a
