/-
  THE PROOF OF 'Rows.FnEventsBetweenIsItsThreeStepsInTurnSaid': the frame after the guide's shell for strings (the two pointers opened by a lemma of its own); the walk is in Qxb6614331aMain.
-/
import Derived.Test.Qxb6614331aRows
import Derived.WalkKit
import Derived.ProofKit
import Derived.OpenShut
import Derived.ShutString
import Derived.ChangeOld
import Derived.Below
import Derived.Lib.SmallJoins
import Derived.Test.Qxb6614331aMain
namespace Go.Proofs.Qxb6614331a.fnEventsBetweenIsItsThreeStepsInTurn
open Go.ChangeShapes Go.WideShapes Go.ChangeAt Go.RowKit
open Go.ChangeMaps (open_string shut_string)
set_option linter.unusedVariables false

theorem own : ownKnob Try.prog.godebug = none := by kernel_rfl
theorem laidOut : laidOutB Try.prog = true := by kernel_rfl
theorem cells38 : Try.prog.cellsOf 38 = 2 := by kernel_rfl
theorem cells36 : Try.prog.cellsOf 36 = 1 := by kernel_rfl
theorem cells9 : Try.prog.cellsOf 9 = 1 := by kernel_rfl

/-- A drain that came in. -/
theorem open_dr {H : Type} {enc : TypeId × Value → H} {W : World} {base : Nat} {v : Value} {d : DataW H} {p : List MemPlace}
    (hv : Value.okWide Try.prog W .any base 22 v) (h : DataW.Trod enc Try.prog W 0 (fun _ => true) true 22 v d p) :
    ∃ q, v = .pointer q ∧ Dr W q ∧ ∀ a, q = some a → ∃ b off, a = ⟨b, off, none⟩ ∧ MemPlace.cell b off ∈ p := by
  rcases Go.ChangeShapes.open_ptr Try.underlying22 (by rw [cells38]; omega) hv h with ⟨rfl, _, _⟩ | ⟨b, off, cs, y, fuel, rfl, _, hps, hlen, hcell, hy⟩
  · exact ⟨none, rfl, .inl rfl, fun a e => by cases e⟩
  · rw [cells38] at hlen hcell hps
    obtain ⟨c0, c1, rfl⟩ : ∃ c0 c1, cs = [c0, c1] := by
      match cs, hlen with
      | [c0, c1], _ => exact ⟨c0, c1, rfl⟩
    have g0 : W.cell? ⟨b, off, none⟩ = some c0 := by have := hcell 0 (by omega); simpa using this
    have g1 : W.cell? ⟨b, off + 1, none⟩ = some c1 := by have := hcell 1 (by omega); simpa using this
    obtain ⟨y0, y1, n, _, _, hy0, hy1⟩ := trod_struct2 Try.underlying38 hy
    obtain ⟨s, e0, _, hs⟩ := DataW.trod_string Try.underlying9 hy0
    simp [cells9] at e0
    subst e0
    refine ⟨_, rfl, .inr ⟨b, off, s, rfl, hs, g0, ?_⟩, fun a e => ⟨b, off, by cases e; rfl, by rw [hps]; simp [MemPlace.row]⟩⟩
    rcases DataW.trod_pointer Try.underlying36 hy1 with ⟨e1, _⟩ | ⟨a, cs', y', m, _, e1, _, hcells, hd'⟩
    · simp [cells36] at e1
      subst e1
      exact .inl g1
    · simp [cells36] at e1
      subst e1
      rw [cells9] at hcells
      obtain ⟨_, hlen', hcell'⟩ := World.cells?_some hcells
      obtain ⟨s', e2, _, hs'⟩ := DataW.trod_string Try.underlying9 hd'
      subst e2
      obtain ⟨rb, ro, spot⟩ := a
      have k0 := hcell' 0 (by omega)
      simp only [List.getElem?_cons_zero] at k0
      have hspot : spot = none := by simpa [Addr.add] using World.cell?_spot k0
      subst hspot
      exact .inr ⟨rb, ro, s', hs', g1, by simpa [Addr.add] using k0⟩

set_option maxRecDepth 100000 in
theorem lifted (os : Os) (started : os.Started) (H : Type) (enc : TypeId × Value → H) :
    ReturnsInHanded {} Try.checked os 3 .any (Rows.fnEventsBetweenIsItsThreeStepsInTurnSpec.pre6 enc Try.prog Try.f3 Rows.fnEventsBetweenIsItsThreeStepsInTurnRow.domain false) (Rows.fnEventsBetweenIsItsThreeStepsInTurnSpec.post enc Try.prog Try.f3 false true false false) := by
  refine returnsInHanded_of_change (C := Try.checked) own started (by kernel_rfl) Try.func3
    (ChangeSpec.witness6 (enc := enc) (C := Try.checked) false ⟨#[], #[.string ⟨#[]⟩, .string ⟨#[]⟩, .pointer none, .string ⟨#[]⟩, .string ⟨#[]⟩, .pointer none], []⟩ 8 (by kernel_rfl) (by kernel_rfl) (by kernel_rfl) (by kernel_rfl)) ?_
  intro W base args ds gs before hval0 hW hcnd _
  have hval : ∀ (j : Nat) t v, Try.f3.params[j]? = some t → args[j]? = some v → Value.okWide Try.prog W .any base t v := hval0
  have hW' := hW
  obtain ⟨p, q, hA0, hV, rfl, hfz, hnd⟩ := hW
  have hA : DataW.TrodAll enc Try.prog W 0 (fun _ => true) true Try.f3.params.toList args.toList ds p := hA0
  rw [Try.params3] at hA hval
  obtain ⟨v0, vs0, d0, ds0, p0, q0, hargs, rfl, rfl, h0, r0⟩ := trodAll_cons hA
  obtain ⟨v1, vs1, d1, ds1, p1, q1, rfl, rfl, rfl, h1, r1⟩ := trodAll_cons r0
  obtain ⟨v2, vs2, d2, ds2, p2, q2, rfl, rfl, rfl, h2, r2⟩ := trodAll_cons r1
  obtain ⟨v3, vs3, d3, ds3, p3, q3, rfl, rfl, rfl, h3, r3⟩ := trodAll_cons r2
  obtain ⟨v4, vs4, d4, ds4, p4, q4, rfl, rfl, rfl, h4, r4⟩ := trodAll_cons r3
  obtain ⟨v5, vs5, d5, ds5, p5, q5, rfl, rfl, rfl, h5, r5⟩ := trodAll_cons r4
  obtain ⟨rfl, rfl, rfl⟩ := trodAll_nil r5
  obtain rfl : args = #[v0, v1, v2, v3, v4, v5] := by cases args; simp_all
  obtain ⟨rfl, rfl⟩ := trodVars_none hV
  obtain ⟨s0, rfl, rfl, rfl, w0⟩ := open_string Try.underlying9 (hval 0 9 v0 rfl rfl) h0
  obtain ⟨s1, rfl, rfl, rfl, w1⟩ := open_string Try.underlying9 (hval 1 9 v1 rfl rfl) h1
  have lt2 : ∀ x ∈ p2, x.block < W.heap.size := by obtain ⟨m, hm⟩ := h2; exact DataW.trod_lt m _ _ _ hm
  obtain ⟨a2, rfl, dr2, fz2⟩ := open_dr (hval 2 22 v2 rfl rfl) h2
  obtain ⟨s3, rfl, rfl, rfl, w3⟩ := open_string Try.underlying9 (hval 3 9 v3 rfl rfl) h3
  obtain ⟨s4, rfl, rfl, rfl, w4⟩ := open_string Try.underlying9 (hval 4 9 v4 rfl rfl) h4
  have lt5 : ∀ x ∈ p5, x.block < W.heap.size := by obtain ⟨m, hm⟩ := h5; exact DataW.trod_lt m _ _ _ hm
  obtain ⟨a5, rfl, dr5, fz5⟩ := open_dr (hval 5 22 v5 rfl rfl) h5
  clear hA0 hval0
  have hf : ∀ a, a2 = some a → W.frozen? a = false := by
    intro a e
    obtain ⟨b, off, rfl, hm⟩ := fz2 a e
    exact hfz b off (by simp [hm])
  refine (main_any s0 s1 s3 s4 a2 a5 W w0 w1 w3 w4 dr2 dr5 hf).mono fun e W' ⟨he, bel⟩ => ?_
  subst he
  exact ⟨_, rfl, _, _, _, [], _, [], hW', trodAll_mk1 (shut_bool Try.underlying4 _), (trodAll_cons_mk (shut_string Try.underlying9 w0) (trodAll_cons_mk (shut_string Try.underlying9 w1) (trodAll_cons_mk (Below.trod laidOut (by kernel_rfl) (of_decide_eq_true (by kernel_rfl)) h2 bel lt2) (trodAll_cons_mk (shut_string Try.underlying9 w3) (trodAll_cons_mk (shut_string Try.underlying9 w4) (trodAll_cons_mk (Below.trod laidOut (by kernel_rfl) (of_decide_eq_true (by kernel_rfl)) h5 bel lt5) trodAll_mk0)))))), rfl, bel.frame _, fun h => by cases h⟩

theorem over : Rows.fnEventsBetweenIsItsThreeStepsInTurnRow.holds Try.pinned (OpenSpec.ofChange Rows.fnEventsBetweenIsItsThreeStepsInTurnSpec) :=
  OpenClaim.holds_of_wide 3 Try.f3 rfl rfl rfl rfl rfl rfl rfl ⟨rfl, rfl, rfl, rfl, rfl⟩ rfl rfl rfl rfl rfl (by kernel_rfl) Try.func3 (by kernel_rfl)
    (of_decide_eq_true (by kernel_rfl)) (by unfold Func.isWrapper; first | (rw [if_pos (by decide +kernel)]; kernel_rfl) | (rw [if_neg (by decide +kernel)]; exact ⟨rfl, rfl⟩))
    (fun os started H enc _ => lifted os started H enc)

theorem proved : Rows.FnEventsBetweenIsItsThreeStepsInTurnSaid := over
end Go.Proofs.Qxb6614331a.fnEventsBetweenIsItsThreeStepsInTurn

namespace Go.Proofs.Qxb6614331a
/-- THE STATEMENT. -/
theorem fnEventsBetweenIsItsThreeStepsInTurn_proved : Rows.FnEventsBetweenIsItsThreeStepsInTurnSaid := fnEventsBetweenIsItsThreeStepsInTurn.proved
end Go.Proofs.Qxb6614331a
