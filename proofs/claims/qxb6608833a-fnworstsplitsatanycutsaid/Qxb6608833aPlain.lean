/-
  Plain functions and laws for the colours: no Go here.
-/
import Derived.Below
namespace Go.Proofs.Qxb6608833a

/-- Is n one of the six colours? -/
def isCol (n : Int) : Bool := decide (1 ≤ n ∧ n ≤ 6)
theorem isCol_iff (n : Int) : isCol n = true ↔ 1 ≤ n ∧ n ≤ 6 := by simp [isCol]
theorem isCol_no (n : Int) : isCol n = false ↔ ¬ (1 ≤ n ∧ n ≤ 6) := by simp [isCol]

/-- One round of Worst: 'acc' is 0 where no colour has come yet. -/
def stepW (acc x : Int) : Int := if 1 ≤ x ∧ x ≤ 6 ∧ (acc = 0 ∨ x < acc) then x else acc
def worst0 (l : List Int) : Int := l.foldl stepW 0
def worst (l : List Int) : Int := if worst0 l = 0 then 5 else worst0 l
def hasCol (l : List Int) : Bool := l.any isCol

theorem worst0_snoc (l : List Int) (x : Int) : worst0 (l ++ [x]) = stepW (worst0 l) x := by simp [worst0]
theorem worst0_nil : worst0 [] = 0 := rfl

/-- WHAT worst0 IS: 0 and no colour; or a colour of l, and none below it. -/
theorem foldl_said (l : List Int) : ∀ a : Int, 0 ≤ a → a ≤ 6 →
    (l.foldl stepW a = 0 ∧ a = 0 ∧ ∀ x ∈ l, ¬ (1 ≤ x ∧ x ≤ 6)) ∨
    (1 ≤ l.foldl stepW a ∧ l.foldl stepW a ≤ 6 ∧ (l.foldl stepW a ∈ l ∨ l.foldl stepW a = a) ∧ (a = 0 ∨ l.foldl stepW a ≤ a) ∧ ∀ x ∈ l, 1 ≤ x → x ≤ 6 → l.foldl stepW a ≤ x) := by
  induction l with
  | nil =>
    intro a h0 h6
    by_cases h : a = 0
    · exact .inl ⟨by simpa using h, h, by simp⟩
    · exact .inr ⟨by simp; omega, by simpa using h6, .inr (by simp), .inr (by simp), by simp⟩
  | cons x l ih =>
    intro a h0 h6
    simp only [List.foldl_cons]
    have hs : (stepW a x = x ∧ 1 ≤ x ∧ x ≤ 6 ∧ (a = 0 ∨ x < a)) ∨ (stepW a x = a ∧ ¬ (1 ≤ x ∧ x ≤ 6 ∧ (a = 0 ∨ x < a))) := by
      unfold stepW
      by_cases h : 1 ≤ x ∧ x ≤ 6 ∧ (a = 0 ∨ x < a)
      · exact .inl ⟨if_pos h, h⟩
      · exact .inr ⟨if_neg h, h⟩
    rcases hs with ⟨e, h1, h2, h3⟩ | ⟨e, hn⟩
    · rw [e]
      rcases ih x (by omega) h2 with ⟨_, hx, _⟩ | ⟨k1, k2, k3, k4, k5⟩
      · omega
      · refine .inr ⟨k1, k2, .inl ?_, by omega, ?_⟩
        · rcases k3 with k3 | k3
          · exact List.mem_cons_of_mem _ k3
          · rw [k3]; exact List.mem_cons_self
        · intro y hy y1 y2
          rcases List.mem_cons.1 hy with rfl | hy
          · omega
          · exact k5 y hy y1 y2
    · rw [e]
      rcases ih a h0 h6 with ⟨k1, k2, k3⟩ | ⟨k1, k2, k3, k4, k5⟩
      · refine .inl ⟨k1, k2, ?_⟩
        intro y hy
        rcases List.mem_cons.1 hy with rfl | hy
        · omega
        · exact k3 y hy
      · refine .inr ⟨k1, k2, ?_, k4, ?_⟩
        · rcases k3 with k3 | k3
          · exact .inl (List.mem_cons_of_mem _ k3)
          · exact .inr k3
        · intro y hy y1 y2
          rcases List.mem_cons.1 hy with rfl | hy
          · omega
          · exact k5 y hy y1 y2

theorem worst0_said (l : List Int) : (worst0 l = 0 ∧ ∀ x ∈ l, ¬ (1 ≤ x ∧ x ≤ 6)) ∨ (1 ≤ worst0 l ∧ worst0 l ≤ 6 ∧ worst0 l ∈ l ∧ ∀ x ∈ l, 1 ≤ x → x ≤ 6 → worst0 l ≤ x) := by
  rcases foldl_said l 0 (by omega) (by omega) with ⟨a, _, b⟩ | ⟨a, b, c, _, d⟩
  · exact .inl ⟨a, b⟩
  · refine .inr ⟨a, b, ?_, d⟩
    rcases c with c | c
    · exact c
    · unfold worst0; omega

theorem worst0_bd (l : List Int) : 0 ≤ worst0 l ∧ worst0 l ≤ 6 := by
  rcases worst0_said l with ⟨a, _⟩ | ⟨a, b, _⟩ <;> omega

theorem hasCol_iff (l : List Int) : hasCol l = true ↔ ∃ x ∈ l, 1 ≤ x ∧ x ≤ 6 := by simp [hasCol, isCol_iff]
theorem hasCol_no (l : List Int) : hasCol l = false ↔ ∀ x ∈ l, ¬ (1 ≤ x ∧ x ≤ 6) := by
  rw [← Bool.not_eq_true, hasCol_iff]
  constructor
  · intro h x hx k; exact h ⟨x, hx, k⟩
  · rintro h ⟨x, hx, k⟩; exact h x hx k

/-- WHAT worst IS. -/
theorem worst_said (l : List Int) : (hasCol l = false ∧ worst l = 5) ∨ (hasCol l = true ∧ 1 ≤ worst l ∧ worst l ≤ 6 ∧ worst l ∈ l ∧ ∀ x ∈ l, 1 ≤ x → x ≤ 6 → worst l ≤ x) := by
  rcases worst0_said l with ⟨a, b⟩ | ⟨a, b, c, d⟩
  · exact .inl ⟨(hasCol_no l).2 b, by unfold worst; rw [if_pos a]⟩
  · have e : worst l = worst0 l := by unfold worst; rw [if_neg (by omega)]
    rw [e]
    exact .inr ⟨(hasCol_iff l).2 ⟨_, c, a, b⟩, a, b, c, d⟩

theorem worst_isCol (l : List Int) : isCol (worst l) = true := by
  rw [isCol_iff]
  rcases worst_said l with ⟨_, h⟩ | ⟨_, h1, h2, _⟩ <;> omega

/-- THE LAW: a colour put in. -/
theorem worst_insert (l r : List Int) (c : Int) :
    worst (l ++ [c] ++ r) = if isCol c = true ∧ (hasCol (l ++ r) = false ∨ c < worst (l ++ r)) then c else worst (l ++ r) := by
  have hm : ∀ x, x ∈ l ++ [c] ++ r ↔ x = c ∨ x ∈ l ++ r := by intro x; simp only [List.mem_append, List.mem_singleton]; constructor <;> intro h <;> (rcases h with h | h) <;> first | (rcases h with h | h <;> simp [h]) | simp [h]
  generalize l ++ [c] ++ r = t at *
  generalize l ++ r = s at *
  by_cases hc : isCol c = true
  · have hc' := (isCol_iff c).1 hc
    rcases worst_said t with ⟨a, _⟩ | ⟨_, t1, t2, t3, t4⟩
    · exact absurd hc' ((hasCol_no t).1 a c ((hm c).2 (.inl rfl)))
    · have tc := t4 c ((hm c).2 (.inl rfl)) hc'.1 hc'.2
      rcases worst_said s with ⟨b, hb⟩ | ⟨b, s1, s2, s3, s4⟩
      · rw [if_pos ⟨hc, .inl b⟩]
        rcases (hm _).1 t3 with h | h
        · exact h
        · exact absurd ⟨t1, t2⟩ ((hasCol_no s).1 b _ h)
      · have k1 := t4 _ ((hm _).2 (.inr s3)) s1 s2
        by_cases hlt : c < worst s
        · rw [if_pos ⟨hc, .inr hlt⟩]
          rcases (hm _).1 t3 with h | h
          · exact h
          · have := s4 _ h t1 t2; omega
        · rw [if_neg (by rw [b]; simp [hlt])]
          rcases (hm _).1 t3 with h | h
          · omega
          · have := s4 _ h t1 t2; omega
  · rw [if_neg (fun h => hc h.1)]
    have hc' : ¬ (1 ≤ c ∧ c ≤ 6) := fun h => hc ((isCol_iff c).2 h)
    rcases worst_said t with ⟨a, ha⟩ | ⟨_, t1, t2, t3, t4⟩
    · rcases worst_said s with ⟨b, hb⟩ | ⟨b, s1, s2, s3, s4⟩
      · omega
      · exact absurd ⟨s1, s2⟩ ((hasCol_no t).1 a _ ((hm _).2 (.inr s3)))
    · rcases (hm _).1 t3 with h | h
      · omega
      · rcases worst_said s with ⟨b, hb⟩ | ⟨b, s1, s2, s3, s4⟩
        · exact absurd ⟨t1, t2⟩ ((hasCol_no s).1 b _ h)
        · have k1 := t4 _ ((hm _).2 (.inr s3)) s1 s2
          have k2 := s4 _ h t1 t2
          omega

end Go.Proofs.Qxb6608833a
