import Derived.Test.Qxb6614331aEvents
import Derived.BigQuiet
import Derived.Deep.QuietTactic
namespace Go.Proofs.Qxb6614331a
open Go.RowKit

/-- A drain as the law is handed it: none, or two cells, the second a pointer: to nothing, or to a string. -/
def Dr (w : World) (p : Option Addr) : Prop :=
  p = none ∨ ∃ (b off : Nat) (t : ByteArray), p = some ⟨b, off, none⟩ ∧ t.size ≤ 9223372036854775807 ∧ w.cell? ⟨b, off, none⟩ = some (.string t) ∧
    (w.cell? ⟨b, off + 1, none⟩ = some (.pointer none) ∨ ∃ (rb ro : Nat) (s : ByteArray), s.size ≤ 9223372036854775807 ∧ w.cell? ⟨b, off + 1, none⟩ = some (.pointer (some ⟨rb, ro, none⟩)) ∧ w.cell? ⟨rb, ro, none⟩ = some (.string s))

theorem Dr.below {w w' : World} {p : Option Addr} (hb : Below w.heap.size w w') : Dr w p → Dr w' p := by
  rintro (rfl | ⟨b, off, t, rfl, ht, hc, h⟩)
  · exact .inl rfl
  · refine .inr ⟨b, off, t, rfl, ht, (hb.cell (p := ⟨b, off, none⟩) (block_lt_of_cell hc)).trans hc, ?_⟩
    rcases h with h | ⟨rb, ro, s, hs, h1, h2⟩
    · exact .inl ((hb.cell (p := ⟨b, off + 1, none⟩) (block_lt_of_cell h)).trans h)
    · exact .inr ⟨rb, ro, s, hs, (hb.cell (p := ⟨b, off + 1, none⟩) (block_lt_of_cell h1)).trans h1, (hb.cell (p := ⟨rb, ro, none⟩) (block_lt_of_cell h2)).trans h2⟩

set_option maxRecDepth 100000 in
set_option maxHeartbeats 4000000 in
theorem zzBytes_any (ps pt ns nt : ByteArray) (pd nd : Option Addr) (w : World) (h1 : ps.size ≤ 9223372036854775807) (h2 : pt.size ≤ 9223372036854775807) (h3 : ns.size ≤ 9223372036854775807) (h4 : nt.size ≤ 9223372036854775807) (hp : Dr w pd) (hn : Dr w nd) :
    Calls Try.prog 4 #[.string ps, .string pt, .pointer pd, .string ns, .string nt, .pointer nd] w fun e w' => ∃ β : Bool, e = .returned (.bool β) ∧ w = w' := by
  rcases hp with rfl | ⟨b, off, t, rfl, ht, hc, (hr | ⟨rb, ro, s, hs, hr, hc2⟩)⟩ <;> rcases hn with rfl | ⟨b', off', t', rfl, ht', hc', (hr' | ⟨rb', ro', s', hs', hr', hc2'⟩)⟩
  all_goals
    go_enter Try.func4, Try.ntmps4
    go_wp2
    all_goals (go_ret; exact ⟨_, rfl, rfl⟩)

set_option maxRecDepth 100000 in
set_option maxHeartbeats 1000000 in
theorem drainBytes_any (pd : Option Addr) (w : World) (hp : Dr w pd) :
    Calls Try.prog 5 #[.pointer pd] w fun e w' => ∃ n : Int, 0 ≤ n ∧ n ≤ 2097152 ∧ e = .returned (.int .i64 n) ∧ w = w' := by
  rcases hp with rfl | ⟨b, off, t, rfl, ht, hc, (hr | ⟨rb, ro, s, hs, hr, hc2⟩)⟩
  all_goals
    go_enter Try.func5, Try.ntmps5
    go_wp2
    all_goals go_ret
    all_goals exact ⟨_, by first | omega | (show (0 : Int) ≤ _; omega), by omega, rfl, rfl⟩

/-- What lawToDrain hands back: nothing, or a new block of its own. -/
def NewPtr (B : Nat) (w : World) (q : Option Addr) : Prop := q = none ∨ ∃ g C t, q = some ⟨g, 0, none⟩ ∧ B ≤ g ∧ w.heap[g]? = some (.cells C t (0, 0))

set_option maxRecDepth 100000 in
set_option maxHeartbeats 1000000 in
theorem toDrain_any (pd : Option Addr) (w : World) (hp : Dr w pd) :
    Calls Try.prog 6 #[.pointer pd] w fun e w' => ∃ q, e = .returned (.pointer q) ∧ NewPtr w.heap.size w' q ∧ Below w.heap.size w w' := by
  rcases hp with rfl | ⟨b, off, t, rfl, ht, hc, (hr | ⟨rb, ro, s, hs, hr, hc2⟩)⟩
  · go_enter Try.func6, Try.ntmps6
    go_wp2
    go_ret
    exact ⟨_, rfl, .inl rfl, Below.refl _ _⟩
  · go_enter Try.func6, Try.ntmps6
    go_wp2
    go_ret
    exact ⟨_, rfl, .inr ⟨_, _, _, rfl, Nat.le_refl _, heap_alloc_new _ _⟩, (Below.refl _ w).alloc (Nat.le_refl _) _⟩
  · have lb : b < w.heap.size := block_lt_of_cell hc
    go_enter Try.func6, Try.ntmps6
    go_wp2
    go_ret
    refine ⟨_, rfl, .inr ⟨w.heap.size + 1, #[.string t, .pointer (some ⟨w.heap.size, 0, none⟩)], 40, rfl, ?_, ?_⟩, ((Below.refl _ w).alloc (Nat.le_refl _) _).alloc (by simp) _⟩
    · exact Nat.le_succ _
    · have := heap_alloc_new (w.alloc (.cells #[.string s] 9)) (.cells #[.string t, .pointer (some ⟨w.heap.size, 0, none⟩)] 40)
      rw [World.size_alloc] at this
      exact this

set_option maxHeartbeats 400000 in
theorem shown_any (s t : ByteArray) (q : Option Addr) (w : World) :
    Calls Try.prog 7 #[.string s, .string t, .pointer q] w fun e w' => e = .returned (.agg #[.string s, .string t, .pointer q]) ∧ w' = w.alloc (.cells #[.string s, .string t, .pointer q] 29) := by
  go_enter Try.func7, Try.ntmps7
  go_wp2
  exact bodyPost_ret (v := .agg #[.string s, .string t, .pointer q]) (by simp [results, Try.results7, go_sem]) rfl ⟨rfl, rfl⟩

theorem below_drewN {B : Nat} {a w : World} (h : Below B a w) (n : Nat) : Below B a (w.drewN n) := h.trans ⟨rfl, rfl, rfl, Nat.le_refl _, fun _ _ => rfl⟩

/-- A slice that holds the strings L. -/
def Strs (w : World) (v : Value) (L : List ByteArray) : Prop := (L = [] ∧ ∃ a c, v = .slice a 0 c) ∨ ∃ b c, v = .slice (some ⟨b, 0, none⟩) L.length c ∧ ∀ j, j < L.length → w.cell? ⟨b, j, none⟩ = some (.string (L[j]?.getD ⟨#[]⟩))

theorem Holds.strs {B : Nat} {w0 w : World} {v : Value} {L : List ByteArray} (h : Holds B w0 w v L) : Strs w v L := by
  rcases h.row.2 with ⟨e1, e2⟩ | ⟨g, cap, cur, rfl, hb, hg, r⟩
  · exact .inl ⟨List.eq_nil_of_length_eq_zero e2, _, _, e1⟩
  · refine .inr ⟨g, cap, rfl, fun j hj => ?_⟩
    rw [h.row.cellAt j (by omega)]
    simp [List.getElem?_eq_getElem hj]

set_option maxRecDepth 100000 in
set_option maxHeartbeats 1000000 in
theorem same_any (v v' : Value) (L : List ByteArray) (w : World) (hl : L.length ≤ 1000) (h : Strs w v L) (h' : Strs w v' L) :
    Calls Try.prog 10 #[v, v'] w fun e w' => e = .returned (.bool true) ∧ Below w.heap.size w w' := by
  rcases h with ⟨rfl, a, c, rfl⟩ | ⟨b, c, rfl, hc⟩
  · rcases h' with ⟨_, a', c', rfl⟩ | ⟨b', c', rfl, hc'⟩
    · go_enter Try.func10, Try.ntmps10
      go_wp2
      refine wp_loop_rounds 1 ?_
      rw [rounds_succ]
      go_wp2
      go_ret
      exact ⟨rfl, Below.refl _ _⟩
    · simp only [List.length_nil]
      go_enter Try.func10, Try.ntmps10
      go_wp2
      refine wp_loop_rounds 1 ?_
      rw [rounds_succ]
      go_wp2
      go_ret
      exact ⟨rfl, Below.refl _ _⟩
  · rcases h' with ⟨rfl, a', c', rfl⟩ | ⟨b', c', rfl, hc'⟩
    · simp only [List.length_nil]
      go_enter Try.func10, Try.ntmps10
      go_wp2
      refine wp_loop_rounds 1 ?_
      rw [rounds_succ]
      go_wp2
      go_ret
      exact ⟨rfl, Below.refl _ _⟩
    · have d0 : ((L.length : Int) != (L.length : Int)) = false := by simp
      go_enter Try.func10, Try.ntmps10
      go_wp2
      go_loopw [5] (fun i wr => ∃ k nq : Nat, k ≤ L.length ∧ i = .int .i64 k ∧ wr = w.drewN nq) (fun i _ => L.length - (intOf i).toNat)
      case atStart => exact ⟨0, 0, Nat.zero_le _, rfl, rfl⟩
      case round =>
        obtain ⟨k, nq, hk, rfl, rfl⟩ := hrel
        by_cases hlt : k < L.length
        · have x0 := hc k hlt
          have y0 := hc' k hlt
          generalize L[k]?.getD ⟨#[]⟩ = z at x0 y0
          have k0 : (0 : Int) ≤ (k : Int) := by omega
          have k1 : (k : Int) < (L.length : Int) := by omega
          clear hc hc'
          go_wp2
          go_quiet (fail)
          go_wp2
          go_roundw
          case rel => exact ⟨k + 1, _, by omega, by go_num, rfl⟩
          case measure => simp [intOf]; omega
        · go_wp2
          go_ret
          exact ⟨rfl, below_drewN (Below.refl _ _) _⟩

end Go.Proofs.Qxb6614331a
