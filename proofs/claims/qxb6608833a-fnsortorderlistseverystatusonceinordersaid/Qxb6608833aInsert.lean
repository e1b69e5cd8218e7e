import Derived.Test.Qxb6608833aSortOrder
namespace Go.Proofs.Qxb6608833a
open Go.RowKit

theorem kvl_length (L : List Key) : (kvl L).length = L.length * 2 := by
  induction L with
  | nil => rfl
  | cons p L ih => simp [kvl] at ih ⊢; omega
theorem kvl_append (A B : List Key) : kvl (A ++ B) = kvl A ++ kvl B := by simp [kvl]
theorem kvl_one (L : List Key) : ∀ v ∈ kvl L, v.oneCell' = true := by
  intro v hv
  simp only [kvl, List.mem_flatMap] at hv
  obtain ⟨p, _, hv⟩ := hv
  simp at hv
  rcases hv with rfl | rfl <;> rfl

/-- The keys lie at off. -/
def KAt (w : World) (b off : Nat) (ks : List Key) : Prop := ∀ j u, (kvl ks)[j]? = some u → w.cell? ⟨b, off + j, none⟩ = some u

theorem KAt.drop {w : World} {b off : Nat} {ks : List Key} (h : KAt w b off ks) (p : Nat) (hp : p ≤ ks.length) : KAt w b (off + p * 2) (ks.drop p) := by
  intro j u hu
  have e : kvl ks = kvl (ks.take p) ++ kvl (ks.drop p) := by rw [← kvl_append, List.take_append_drop]
  have hl : (kvl (ks.take p)).length = p * 2 := by rw [kvl_length, List.length_take, Nat.min_eq_left hp]
  have := h (p * 2 + j) u (by rw [e, List.getElem?_append_right (by omega), hl]; simpa using hu)
  rwa [← Nat.add_assoc] at this
theorem KAt.take {w : World} {b off : Nat} {ks : List Key} (h : KAt w b off ks) (p : Nat) : KAt w b off (ks.take p) := by
  intro j u hu
  have e : kvl ks = kvl (ks.take p) ++ kvl (ks.drop p) := by rw [← kvl_append, List.take_append_drop]
  have hj := (List.getElem?_eq_some_iff.1 hu).1
  exact h j u (by rw [e, List.getElem?_append_left hj]; exact hu)
theorem KAt.below {w w' : World} {b off : Nat} {ks : List Key} (h : KAt w b off ks) (hb : b < w.heap.size) (hB : Below w.heap.size w w') : KAt w' b off ks := fun j u hu => (hB.cell (p := ⟨b, off + j, none⟩) hb).trans (h j u hu)
theorem KAt.at {w : World} {b off : Nat} {ks : List Key} (h : KAt w b off ks) (j : Nat) (hj : j < ks.length) : w.cell? ⟨b, off + j * 2, none⟩ = some (.string (ks[j]?.getD nk).1) ∧ w.cell? ⟨b, off + j * 2 + 1, none⟩ = some (.string (ks[j]?.getD nk).2) := by
  obtain ⟨h1, h2⟩ := kvl_at ks j hj
  exact ⟨h _ _ h1, by rw [Nat.add_assoc]; exact h _ _ h2⟩
theorem KAt.of {w : World} {b off : Nat} {ks : List Key} (h : ∀ j, j < ks.length → w.cell? ⟨b, off + j * 2, none⟩ = some (.string (ks[j]?.getD nk).1) ∧ w.cell? ⟨b, off + j * 2 + 1, none⟩ = some (.string (ks[j]?.getD nk).2)) : KAt w b off ks := by
  intro j u hu
  have hj := (List.getElem?_eq_some_iff.1 hu).1
  rw [kvl_length] at hj
  have h2 : j / 2 < ks.length := by omega
  have hk := kvl_at ks (j / 2) h2
  have hc := h (j / 2) h2
  rcases Nat.mod_two_eq_zero_or_one j with m | m
  · have e : j / 2 * 2 = j := by omega
    rw [e] at hk hc
    rw [hk.1] at hu
    rw [← hu]; exact hc.1
  · have e : j / 2 * 2 + 1 = j := by omega
    rw [e] at hk
    rw [Nat.add_assoc, e] at hc
    rw [hk.2] at hu
    rw [← hu]; exact hc.2
theorem KAt.krow {w : World} {b off : Nat} {ks : List Key} (h : KAt w b off ks) (hb : b < w.heap.size) : KRow w (some ⟨b, off, none⟩) ks := .inr ⟨b, off, rfl, hb, fun j hj => h.at j hj⟩
theorem KAt.own {w : World} {base g cap n : Nat} {e : TypeId} {ks : List Key} (h : w.ownsRow base e 2 (.slice (some ⟨g, 0, none⟩) n cap) n (kvl ks)) : KAt w g 0 ks := by
  intro j u hu
  have hl := h.1
  have hj := (List.getElem?_eq_some_iff.1 hu).1
  rw [Nat.zero_add, h.cellAt j (by omega)]
  exact hu

theorem tw_len (l : List Key) (k : Key) : ∀ (p : Nat), p ≤ l.length → (∀ j, j < p → cmpK (l[j]?.getD nk) k < 0) → (p < l.length → ¬ cmpK (l[p]?.getD nk) k < 0) → (l.takeWhile fun x => decide (cmpK x k < 0)).length = p := by
  induction l with
  | nil => intro p hp _ _; simp at hp; simp [hp]
  | cons a l ih =>
    intro p hp h1 h2
    cases p with
    | zero =>
      have := h2 (by simp)
      simp at this
      simp [this]
    | succ p =>
      have ha : cmpK a k < 0 := by have := h1 0 (by omega); simpa using this
      simp only [List.takeWhile, ha, decide_true, List.length_cons]
      rw [ih p (by simpa using hp) (fun j hj => by have := h1 (j + 1) (by omega); simpa using this) (fun hlt => by have := h2 (by simpa using hlt); simpa using this)]

theorem insK_there (l : List Key) (k : Key) (p : Nat) (hp : p < l.length) (h1 : ∀ j, j < p → cmpK (l[j]?.getD nk) k < 0) (h2 : cmpK (l[p]?.getD nk) k = 0) : insK l k = l := by
  have e := tw_len l k p (by omega) h1 (fun _ => by omega)
  unfold insK
  simp only [e]
  rw [if_pos]
  rw [List.head?_drop, List.getElem?_eq_getElem hp]
  rw [List.getElem?_eq_getElem hp] at h2
  simpa using h2
theorem insK_new (l : List Key) (k : Key) (p : Nat) (hp : p ≤ l.length) (h1 : ∀ j, j < p → cmpK (l[j]?.getD nk) k < 0) (h2 : p < l.length → 0 < cmpK (l[p]?.getD nk) k) : insK l k = l.take p ++ [k] ++ l.drop p := by
  have e := tw_len l k p hp h1 (fun h => by have := h2 h; omega)
  unfold insK
  simp only [e]
  rw [if_neg]
  rw [List.head?_drop]
  by_cases h : p < l.length
  · have := h2 h
    rw [List.getElem?_eq_getElem h] at this ⊢
    simp at this ⊢
    omega
  · rw [List.getElem?_eq_none (by omega)]; simp

end Go.Proofs.Qxb6608833a
