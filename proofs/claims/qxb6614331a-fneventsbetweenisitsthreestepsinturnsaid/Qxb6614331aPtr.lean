import Derived.Test.Qxb6614331aDrains
namespace Go.Proofs.Qxb6614331a
open Go.RowKit

theorem stringish_some {P : Program} (w : World) {a : Addr} {ca : Array Value} {ta : TypeId} {ra : Nat × Nat} (ha : w.heap[a.block]? = some (.cells ca ta ra)) : ∃ s : Bool, (stringish a).run P w = .ok s w := by
  cases hf : w.frozen? a with
  | true => exact ⟨true, by simp [stringish, hf]⟩
  | false => exact ⟨_, by simp [stringish, hf, World.shape?, ha]; rfl⟩

/-- Two addresses of cells, the first not frozen: the comparison yields some Bool, and draws at most once. -/
theorem sameAddr_some {P : Program} (w : World) {a b : Addr} {ca cb : Array Value} {ta tb : TypeId} {ra rb : Nat × Nat} (ha : w.heap[a.block]? = some (.cells ca ta ra)) (hb : w.heap[b.block]? = some (.cells cb tb rb)) (hf : w.frozen? a = false) :
    ∃ (β : Bool) (wq : World), (sameAddr a b).run P w = .ok β wq ∧ (wq = w ∨ wq = w.drew) := by
  by_cases hbl : a.block = b.block
  · exact ⟨_, w, by simp [sameAddr, hbl]; rfl, .inl rfl⟩
  · have hm : ∃ m : Bool, (mayBeOne a b).run P w = .ok m w := by
      obtain ⟨sa, hsa⟩ := stringish_some (P := P) w ha
      obtain ⟨sb, hsb⟩ := stringish_some (P := P) w hb
      cases sa <;> cases sb
      · exact ⟨false, by simp [mayBeOne, hsa, hsb]⟩
      · exact ⟨_, by simp [mayBeOne, hsa, hsb, World.shape?, hb]; rfl⟩
      · exact ⟨_, by simp [mayBeOne, hsa, hsb, World.shape?, ha]; rfl⟩
      · exact ⟨_, by simp [mayBeOne, hsa, hsb]; rfl⟩
    obtain ⟨m, hm⟩ := hm
    cases m with
    | false => exact ⟨false, w, by simp [sameAddr, hbl, hf, noView, viewAt, World.shape?, ha, hb, hm], .inl rfl⟩
    | true => exact ⟨_, w.drew, by simp [sameAddr, hbl, hf, noView, viewAt, World.shape?, ha, hb, hm, Question.forced]; rfl, .inr rfl⟩


theorem Try.info38 : (Try.prog.info? 38).map (fun i => (i.zero, i.size, i.bytes)) = some (some (.agg #[.string ⟨#[]⟩, .pointer none]), 2, 24) := by kernel_rfl
theorem Try.info40 : (Try.prog.info? 40).map (fun i => (i.zero, i.size, i.bytes)) = some (some (.agg #[.string ⟨#[]⟩, .pointer none]), 2, 24) := by kernel_rfl

/-- 'pd == nd', of two drains as they came in. -/
theorem eql_drains (w : World) (p q : Option Addr) (hp : Dr w p) (hq : Dr w q) (hf : ∀ a, p = some a → w.frozen? a = false) :
    ∃ (β : Bool) (wq : World), (binOp .eql 22 (.pointer p) (.pointer q)).run Try.prog w = .ok (.bool β) wq ∧ (wq = w ∨ wq = w.drew) := by
  obtain ⟨i0, hi, hz0, hz1, hz2⟩ := info_parts Try.info38
  have hblk : ∀ {b off : Nat} {v : Value}, w.cell? ⟨b, off, none⟩ = some v → ∃ C t r, w.heap[b]? = some (.cells C t r) := by
    intro b off v h
    unfold World.cell? at h
    split at h
    · rename_i C t r e; exact ⟨C, t, r, e⟩
    · cases h
  rcases hp with rfl | ⟨b, off, t, rfl, _, hc, _⟩
  · refine ⟨q.isNone, w, ?_, .inl rfl⟩
    simp only [binOp]
    have h : ∀ d : Nat, (Op.equalIn (d + 1) 22 (.pointer none) (.pointer q)).run Try.prog w = .ok q.isNone w := fun d => by
      simp [Op.equalIn, run_underlying Try.underlying22]
    simp [Op.equal, Op.maxDepth, h 9999]
  · rcases hq with rfl | ⟨b', off', t', rfl, _, hc', _⟩
    · refine ⟨false, w, ?_, .inl rfl⟩
      simp only [binOp]
      have h : ∀ d : Nat, (Op.equalIn (d + 1) 22 (.pointer (some ⟨b, off, none⟩)) (.pointer none)).run Try.prog w = .ok false w := fun d => by
        simp [Op.equalIn, run_underlying Try.underlying22]
      simp [Op.equal, Op.maxDepth, h 9999]
    · obtain ⟨C, tt, r, e⟩ := hblk hc
      obtain ⟨C', tt', r', e'⟩ := hblk hc'
      obtain ⟨β, wq, hs, hw⟩ := sameAddr_some (P := Try.prog) w (a := ⟨b, off, none⟩) (b := ⟨b', off', none⟩) e e' (hf _ rfl)
      refine ⟨β, wq, ?_, hw⟩
      simp only [binOp]
      have h : ∀ d : Nat, (Op.equalIn (d + 1) 22 (.pointer (some ⟨b, off, none⟩)) (.pointer (some ⟨b', off', none⟩))).run Try.prog w = .ok β wq := fun d => by
        simp [Op.equalIn, run_underlying Try.underlying22, sizeOf, typeInfo, hi, hz1, hs]
      simp [Op.equal, Op.maxDepth, h 9999]

/-- 'rn != rp', of two drains that the call has made. -/
theorem ptrNe (w : World) (rn rp : Option Addr) (B B' : Nat) (h : NewPtr B w rn) (h' : NewPtr B' w rp) : ∃ β, PtrNe w rn rp β := by
  obtain ⟨i0, hi, hz0, hz1, hz2⟩ := info_parts Try.info40
  rcases h with rfl | ⟨g, C, t, rfl, _, e⟩
  · refine ⟨!rp.isNone, fun w' _ => ?_⟩
    simp only [binOp]
    have h : ∀ d : Nat, (Op.equalIn (d + 1) 25 (.pointer none) (.pointer rp)).run Try.prog w' = .ok rp.isNone w' := fun d => by
      simp [Op.equalIn, run_underlying Try.underlying25]
    simp [Op.equal, Op.maxDepth, h 9999]
  · rcases h' with rfl | ⟨g', C', t', rfl, _, e'⟩
    · refine ⟨true, fun w' _ => ?_⟩
      simp only [binOp]
      have h : ∀ d : Nat, (Op.equalIn (d + 1) 25 (.pointer (some ⟨g, 0, none⟩)) (.pointer none)).run Try.prog w' = .ok false w' := fun d => by
        simp [Op.equalIn, run_underlying Try.underlying25]
      simp [Op.equal, Op.maxDepth, h 9999]
    · by_cases hg : g = g'
      · subst hg
        refine ⟨false, fun w' _ => ?_⟩
        simp only [binOp]
        have h : ∀ d : Nat, (Op.equalIn (d + 1) 25 (.pointer (some ⟨g, 0, none⟩)) (.pointer (some ⟨g, 0, none⟩))).run Try.prog w' = .ok true w' := fun d => by
          simp [Op.equalIn, run_underlying Try.underlying25, sizeOf, typeInfo, hi, run_sameAddr_same]
        simp [Op.equal, Op.maxDepth, h 9999]
      · refine ⟨true, fun w' hb => ?_⟩
        have lt : g < w.heap.size := (Array.getElem?_eq_some_iff.1 e).1
        have lt' : g' < w.heap.size := (Array.getElem?_eq_some_iff.1 e').1
        have hs := run_sameAddr_other (P := Try.prog) w' (a := ⟨g, 0, none⟩) (b := ⟨g', 0, none⟩) (fun k => hg (by injection k)) ((hb.block g lt).trans e) ((hb.block g' lt').trans e')
        simp only [binOp]
        have h : ∀ d : Nat, (Op.equalIn (d + 1) 25 (.pointer (some ⟨g, 0, none⟩)) (.pointer (some ⟨g', 0, none⟩))).run Try.prog w' = .ok false w' := fun d => by
          simp [Op.equalIn, run_underlying Try.underlying25, sizeOf, typeInfo, hi, hz1, hs]
        simp [Op.equal, Op.maxDepth, h 9999]

/-- 'rp != rp'. -/
theorem ptrSame (w : World) (rp : Option Addr) : PtrNe w rp rp false := by
  obtain ⟨i0, hi, hz0, hz1, hz2⟩ := info_parts Try.info40
  intro w' _
  simp only [binOp]
  cases rp with
  | none =>
    have h : ∀ d : Nat, (Op.equalIn (d + 1) 25 (.pointer none) (.pointer none)).run Try.prog w' = .ok true w' := fun d => by
      simp [Op.equalIn, run_underlying Try.underlying25]
    simp [Op.equal, Op.maxDepth, h 9999]
  | some a =>
    have h : ∀ d : Nat, (Op.equalIn (d + 1) 25 (.pointer (some a)) (.pointer (some a))).run Try.prog w' = .ok true w' := fun d => by
      simp [Op.equalIn, run_underlying Try.underlying25, sizeOf, typeInfo, hi, run_sameAddr_same]
    simp [Op.equal, Op.maxDepth, h 9999]

end Go.Proofs.Qxb6614331a
