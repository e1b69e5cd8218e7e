import Derived.Test.Qxb6614252aMove
import Derived.BigQuiet
import Derived.Deep.QuietTactic
namespace Go.Proofs.Qxb6614252a
open Go.RowKit

def at3 (x y z : Int) (i : Nat) : Int := match i with | 0 => x | 1 => y | _ => z
theorem Blk.at3 {w : World} {b : Nat} {k : IntKind} {x y z : Int} {t : TypeId} (h : Blk w b (arr3 k x y z) t) (i : Nat) (hi : i < 3) : w.cell? ⟨b, i, none⟩ = some (.int k (at3 x y z i)) := by
  obtain ⟨h0, h1, h2⟩ := h.three
  match i, hi with
  | 0, _ => exact h0
  | 1, _ => exact h1
  | 2, _ => exact h2

/-- THE LAW: two slots coincide just where role and number do. -/
theorem apart_law (s a t b a2 t2 b2 : Int) (h : RecIn s a t b) (h2 : RecIn s a2 t2 b2) (i j : Nat) (hi : i < 3) (hj : j < 3) :
    (at3 (a / 509) (apg s + t / 10) (apg s + s + b) i = at3 (a2 / 509) (apg s + t2 / 10) (apg s + s + b2) j ∧ at3 (a % 509) (t % 10) 0 i = at3 (a2 % 509) (t2 % 10) 0 j) ↔ (i = j ∧ at3 a t b i = at3 a2 t2 b2 j) := by
  obtain ⟨h1, h2', h3, h4, h5, h6, h7, h8⟩ := h
  obtain ⟨_, _, g3, g4, g5, g6, g7, g8⟩ := h2
  have hs := apg_said s
  generalize apg s = A at *
  have hi' : i = 0 ∨ i = 1 ∨ i = 2 := by omega
  have hj' : j = 0 ∨ j = 1 ∨ j = 2 := by omega
  rcases hi' with rfl | rfl | rfl <;> rcases hj' with rfl | rfl | rfl <;> simp only [at3, true_and, and_true] <;> omega

theorem below_drewN {B : Nat} {a w : World} (h : Below B a w) (n : Nat) : Below B a (w.drewN n) := h.trans ⟨rfl, rfl, rfl, Nat.le_refl _, fun _ _ => rfl⟩

set_option maxRecDepth 100000 in
set_option maxHeartbeats 4000000 in
theorem apart_main (s a t b m v0 v1 v2 k0 k1 k2 c0 c1 c2 a2 t2 b2 : Int) (w : World) (h : RecIn s a t b) (g : RecIn s a2 t2 b2) :
    Calls Try.prog 3 #[.int .i64 s, .int .i64 a, .int .i64 t, .int .i64 b, .int .i64 m, .agg (arr3 .u64 v0 v1 v2), .agg (arr3 .u64 k0 k1 k2), .agg (arr3 .i64 c0 c1 c2), .int .i64 a2, .int .i64 t2, .int .i64 b2] w
      fun e w' => e = .returned (.bool true) ∧ Below w.heap.size w w' := by
  have law := apart_law s a t b a2 t2 b2 h g
  have h' := h
  have g' := g
  obtain ⟨h1, h2, h3, h4, h5, h6, h7, h8⟩ := h'
  obtain ⟨_, _, g3, g4, g5, g6, g7, g8⟩ := g'
  have As := apg_bd s (by omega) h2
  go_enter Try.func3, Try.ntmps3
  go_wp2_with fail
  refine (recIn_yes s a t b _ h).mono ?_
  rintro e w' ⟨rfl, rfl⟩
  go_wp2_with fail
  refine (recIn_yes s a2 t2 b2 _ g).mono ?_
  rintro e w' ⟨rfl, rfl⟩
  go_wp2_with fail
  refine (zzslots_any s a t b m v0 v1 v2 k0 k1 k2 c0 c1 c2 _ (by omega) h2 h3 (by omega) h5 (by omega) h7 (by omega)).mono ?_
  rintro e w1 ⟨rfl, hb⟩
  obtain ⟨p0, p1, p2, hB1, hz1⟩ := threeB hb
  clear hb
  obtain ⟨x0, x1, x2⟩ := p0.three
  obtain ⟨y0, y1, y2⟩ := p1.three
  obtain ⟨z0, z1, z2⟩ := p2.three
  have l0 : w.heap.size < w1.heap.size := by omega
  have l1 : w.heap.size + 1 < w1.heap.size := by omega
  have l2 : w.heap.size + 1 + 1 < w1.heap.size := by omega
  have m0 : w.heap.size < w1.heap.size + 1 := by omega
  have m1 : w.heap.size + 1 < w1.heap.size + 1 := by omega
  have m2 : w.heap.size + 1 + 1 < w1.heap.size + 1 := by omega
  go_wp2_with fail
  refine (zzslots_any s a2 t2 b2 m v0 v1 v2 k0 k1 k2 c0 c1 c2 _ (by omega) h2 g3 (by omega) g5 (by omega) g7 (by omega)).mono ?_
  rintro e w2 ⟨rfl, hb⟩
  obtain ⟨q0, q1, hB2, hz2⟩ := twoB hb
  clear hb x0 x1 x2 y0 y1 y2 z0 z1 z2 p0 p1 p2 l0 l1 l2 m0 m1 m2
  obtain ⟨x0, x1, x2⟩ := q0.three
  obtain ⟨y0, y1, y2⟩ := q1.three
  have l0 : w1.heap.size < w2.heap.size := by omega
  have l1 : w1.heap.size + 1 < w2.heap.size := by omega
  have m0 : w1.heap.size < w2.heap.size + 1 := by omega
  have m1 : w1.heap.size + 1 < w2.heap.size + 1 := by omega
  go_wp2_with fail
  refine (placed_any s a t b (a / 509) (a % 509) (apg s + t / 10) (t % 10) (apg s + s + b) _ h (by omega) (by omega) (by omega) (by omega) (by omega) (by omega) (by omega) (by omega) (by omega) (by omega) (by omega)).mono ?_
  rintro e w3 ⟨rfl, hb⟩
  obtain ⟨r0, r1, hB3, hz3⟩ := twoB hb
  clear hb x0 x1 x2 y0 y1 y2 l0 l1 m0 m1
  have q0' := q0.below hB3 (by omega)
  have q1' := q1.below hB3 (by omega)
  clear q0 q1
  obtain ⟨x0, x1, x2⟩ := r0.three
  obtain ⟨y0, y1, y2⟩ := r1.three
  go_wp2_with fail
  refine (placed_any s a2 t2 b2 (a2 / 509) (a2 % 509) (apg s + t2 / 10) (t2 % 10) (apg s + s + b2) _ g (by omega) (by omega) (by omega) (by omega) (by omega) (by omega) (by omega) (by omega) (by omega) (by omega) (by omega)).mono ?_
  rintro e w4 ⟨rfl, hB4⟩
  clear x0 x1 x2 y0 y1 y2
  have hz4 := hB4.size
  have Q0 := q0'.below hB4 (by omega)
  have Q1 := q1'.below hB4 (by omega)
  have R0 := r0.below hB4 (by omega)
  have R1 := r1.below hB4 (by omega)
  have HB : Below w.heap.size w w4 := ((hB1.trans (hB2.mono (by omega))).trans (hB3.mono (by omega))).trans (hB4.mono (by omega))
  clear q0' q1' r0 r1 hB1 hB2 hB3 hB4
  generalize apg s = A at *
  go_wp2
  have S0 := Blk.new w4 (arr3 .i64 a t b) 28
  have S1 := Blk.new (w4.alloc (.cells (arr3 .i64 a t b) 28)) (arr3 .i64 a2 t2 b2) 28
  have S0' := S0.alloc (.cells (arr3 .i64 a2 t2 b2) 28)
  rw [World.size_alloc] at S1
  have P0 := (Q0.alloc (.cells (arr3 .i64 a t b) 28)).alloc (.cells (arr3 .i64 a2 t2 b2) 28)
  have P1 := (Q1.alloc (.cells (arr3 .i64 a t b) 28)).alloc (.cells (arr3 .i64 a2 t2 b2) 28)
  have P2 := (R0.alloc (.cells (arr3 .i64 a t b) 28)).alloc (.cells (arr3 .i64 a2 t2 b2) 28)
  have P3 := (R1.alloc (.cells (arr3 .i64 a t b) 28)).alloc (.cells (arr3 .i64 a2 t2 b2) 28)
  have HB2 : Below w.heap.size w ((w4.alloc (.cells (arr3 .i64 a t b) 28)).alloc (.cells (arr3 .i64 a2 t2 b2) 28)) := (HB.alloc (by omega) _).alloc (by simp only [World.size_alloc]; omega) _
  clear Q0 Q1 R0 R1 S0 HB
  generalize (w4.alloc (.cells (arr3 .i64 a t b) 28)).alloc (.cells (arr3 .i64 a2 t2 b2) 28) = W at *
  go_loopw [29] (fun i wr => ∃ (k : Nat) (nq : Nat), k ≤ 3 ∧ i = .int .i64 k ∧ wr = W.drewN nq) (fun i _ => 3 - (intOf i).toNat)
  case atStart => exact ⟨0, 0, by omega, rfl, rfl⟩
  case round =>
    obtain ⟨i, nq, hi, rfl, rfl⟩ := hrel
    by_cases hi3 : i < 3
    · go_wp2
      go_loopw [30] (fun j wr => ∃ (k : Nat) (nq : Nat), k ≤ 3 ∧ j = .int .i64 k ∧ wr = W.drewN nq) (fun j _ => 3 - (intOf j).toNat)
      case atStart => exact ⟨0, nq, by omega, rfl, rfl⟩
      case round =>
        obtain ⟨j, nq, hj, rfl, rfl⟩ := hrel
        by_cases hj3 : j < 3
        · have f1 := P0.at3 i hi3
          have f2 := P2.at3 j hj3
          have f3 := P1.at3 i hi3
          have f4 := P3.at3 j hj3
          have f5 := S0'.at3 i hi3
          have f6 := S1.at3 j hj3
          have lw := law i j hi3 hj3
          generalize at3 (a / 509) (A + t / 10) (A + s + b) i = X1 at f1 lw
          generalize at3 (a2 / 509) (A + t2 / 10) (A + s + b2) j = X2 at f2 lw
          generalize at3 (a % 509) (t % 10) 0 i = Y1 at f3 lw
          generalize at3 (a2 % 509) (t2 % 10) 0 j = Y2 at f4 lw
          generalize at3 a t b i = D1 at f5 lw
          generalize at3 a2 t2 b2 j = D2 at f6 lw
          have i0 : (0 : Int) ≤ (i : Int) := by omega
          have i3 : (i : Int) < 3 := by omega
          have j0 : (0 : Int) ≤ (j : Int) := by omega
          have j3 : (j : Int) < 3 := by omega
          clear P0 P1 P2 P3 S0' S1 law
          by_cases hx : X1 = X2
          · have bx : (X1 == X2) = true := by simp [hx]
            by_cases hy : Y1 = Y2
            · have by' : (Y1 == Y2) = true := by simp [hy]
              have hw := lw.1 ⟨hx, hy⟩
              have bi : ((i : Int) == (j : Int)) = true := by simp [hw.1]
              have bd : (D1 == D2) = true := by simp [hw.2]
              clear lw hx hy hw
              go_wp2
              go_quiet (fail)
              go_wp2
              go_quiet (fail)
              go_wp2
              go_roundw
              case rel => exact ⟨j + 1, _, by omega, by go_num, rfl⟩
              case measure => simp [intOf]; omega
            · have by' : (Y1 == Y2) = false := by simp [hy]
              have hw : ¬ (i = j ∧ D1 = D2) := fun k => hy (lw.2 k).2
              clear lw hx hy
              by_cases hij : i = j
              · have bi : ((i : Int) == (j : Int)) = true := by simp [hij]
                have bd : (D1 == D2) = false := by simp only [beq_eq_false_iff_ne]; exact fun k => hw ⟨hij, k⟩
                clear hij hw
                go_wp2
                go_quiet (fail)
                go_wp2
                go_quiet (fail)
                go_wp2
                go_roundw
                case rel => exact ⟨j + 1, _, by omega, by go_num, rfl⟩
                case measure => simp [intOf]; omega
              · have bi : ((i : Int) == (j : Int)) = false := by simp only [beq_eq_false_iff_ne]; omega
                clear hij hw
                go_wp2
                go_quiet (fail)
                go_wp2
                go_quiet (fail)
                go_wp2
                go_roundw
                case rel => exact ⟨j + 1, _, by omega, by go_num, rfl⟩
                case measure => simp [intOf]; omega
          · have bx : (X1 == X2) = false := by simp [hx]
            have hw : ¬ (i = j ∧ D1 = D2) := fun k => hx (lw.2 k).1
            clear lw hx
            by_cases hij : i = j
            · have bi : ((i : Int) == (j : Int)) = true := by simp [hij]
              have bd : (D1 == D2) = false := by simp only [beq_eq_false_iff_ne]; exact fun k => hw ⟨hij, k⟩
              clear hij hw
              go_wp2
              go_quiet (fail)
              go_wp2
              go_quiet (fail)
              go_wp2
              go_roundw
              case rel => exact ⟨j + 1, _, by omega, by go_num, rfl⟩
              case measure => simp [intOf]; omega
            · have bi : ((i : Int) == (j : Int)) = false := by simp only [beq_eq_false_iff_ne]; omega
              clear hij hw
              go_wp2
              go_quiet (fail)
              go_wp2
              go_quiet (fail)
              go_wp2
              go_roundw
              case rel => exact ⟨j + 1, _, by omega, by go_num, rfl⟩
              case measure => simp [intOf]; omega
        · go_wp2
          go_roundw
          case rel => exact ⟨i + 1, nq, by omega, by go_num, rfl⟩
          case measure => simp [intOf]; omega
    · go_wp2
      go_ret
      exact ⟨rfl, below_drewN HB2 _⟩


set_option maxRecDepth 100000 in
set_option maxHeartbeats 2000000 in
/-- The inputs that the law lets pass. -/
theorem apart_out (s a t b m v0 v1 v2 k0 k1 k2 c0 c1 c2 a2 t2 b2 : Int) (w : World) (h : ¬ (RecIn s a t b ∧ RecIn s a2 t2 b2)) :
    Calls Try.prog 3 #[.int .i64 s, .int .i64 a, .int .i64 t, .int .i64 b, .int .i64 m, .agg (arr3 .u64 v0 v1 v2), .agg (arr3 .u64 k0 k1 k2), .agg (arr3 .i64 c0 c1 c2), .int .i64 a2, .int .i64 t2, .int .i64 b2] w
      fun e w' => e = .returned (.bool true) ∧ Below w.heap.size w w' := by
  by_cases h1 : RecIn s a t b
  · have h2 : ¬ RecIn s a2 t2 b2 := fun k => h ⟨h1, k⟩
    clear h
    go_enter Try.func3, Try.ntmps3
    go_wp2_with fail
    refine (recIn_yes s a t b _ h1).mono ?_
    rintro e w' ⟨rfl, rfl⟩
    go_wp2_with fail
    refine (recIn_no s a2 t2 b2 _ h2).mono ?_
    rintro e w' ⟨rfl, rfl⟩
    go_wp2
    go_ret
    exact ⟨rfl, threeAlloc _ _ _ _⟩
  · clear h
    go_enter Try.func3, Try.ntmps3
    go_wp2_with fail
    refine (recIn_no s a t b _ h1).mono ?_
    rintro e w' ⟨rfl, rfl⟩
    go_wp2
    go_ret
    exact ⟨rfl, threeAlloc _ _ _ _⟩

end Go.Proofs.Qxb6614252a
