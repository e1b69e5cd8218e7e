/-
  Keys and their order: no Go here.
-/
import Derived.Lib.Bytealg
namespace Go.Proofs.Qxb6608833a
open Go.Lib (compareBytes)

abbrev Key := ByteArray × ByteArray

theorem cb_self : ∀ x : List UInt8, compareBytes x x = 0
  | [] => rfl
  | a :: x => by simp [compareBytes, UInt8.lt_irrefl, cb_self x]
theorem cb_zero : ∀ {x y : List UInt8}, compareBytes x y = 0 → x = y
  | [], [], _ => rfl
  | [], _ :: _, h => by simp [compareBytes] at h
  | _ :: _, [], h => by simp [compareBytes] at h
  | a :: x, b :: y, h => by
    unfold compareBytes at h
    by_cases h1 : a < b
    · simp [h1] at h
    · by_cases h2 : b < a
      · simp [h1, h2] at h
      · simp only [h1, h2, if_false] at h
        have e : a = b := by
          have h1' := UInt8.not_lt.1 h1
          have h2' := UInt8.not_lt.1 h2
          exact UInt8.le_antisymm h2' h1'
        rw [e, cb_zero h]
theorem cb_neg : ∀ x y : List UInt8, compareBytes y x = - compareBytes x y
  | [], [] => rfl
  | [], _ :: _ => rfl
  | _ :: _, [] => rfl
  | a :: x, b :: y => by
    unfold compareBytes
    by_cases h1 : a < b
    · have h2 : ¬ b < a := UInt8.lt_asymm h1
      simp [h1, h2]
    · by_cases h2 : b < a
      · simp [h1, h2]
      · simp only [h1, h2, if_false]; exact cb_neg x y
theorem cb_val : ∀ x y : List UInt8, compareBytes x y = -1 ∨ compareBytes x y = 0 ∨ compareBytes x y = 1
  | [], [] => .inr (.inl rfl)
  | [], _ :: _ => .inl rfl
  | _ :: _, [] => .inr (.inr rfl)
  | a :: x, b :: y => by
    unfold compareBytes
    by_cases h1 : a < b
    · simp [h1]
    · by_cases h2 : b < a
      · simp [h1, h2]
      · simp only [h1, h2, if_false]; exact cb_val x y
theorem cb_trans : ∀ {x y z : List UInt8}, compareBytes x y = -1 → compareBytes y z = -1 → compareBytes x z = -1
  | [], [], _, h, _ => by simp [compareBytes] at h
  | _ :: _, [], _, h, _ => by simp [compareBytes] at h
  | [], _ :: _, [], _, k => by simp [compareBytes] at k
  | _ :: _, _ :: _, [], _, k => by simp [compareBytes] at k
  | [], _ :: _, _ :: _, _, _ => rfl
  | a :: x, b :: y, c :: z, h, k => by
    unfold compareBytes at h k ⊢
    by_cases h1 : a < b
    · by_cases k1 : b < c
      · simp [UInt8.lt_trans h1 k1]
      · by_cases k2 : c < b
        · simp [k1, k2] at k
        · have e : b = c := UInt8.le_antisymm (UInt8.not_lt.1 k2) (UInt8.not_lt.1 k1)
          subst e; simp [h1]
    · by_cases h2 : b < a
      · simp [h1, h2] at h
      · have e : a = b := UInt8.le_antisymm (UInt8.not_lt.1 h2) (UInt8.not_lt.1 h1)
        subst e
        simp only [h1, if_false] at h
        by_cases k1 : a < c
        · simp [k1]
        · by_cases k2 : c < a
          · simp [k1, k2] at k
          · simp only [k1, k2, if_false] at k ⊢
            exact cb_trans h k

/-- host, then test. -/
def cmpK (a b : Key) : Int := if compareBytes a.1.data.toList b.1.data.toList = 0 then compareBytes a.2.data.toList b.2.data.toList else compareBytes a.1.data.toList b.1.data.toList

theorem ba_ext {a b : ByteArray} (h : a.data.toList = b.data.toList) : a = b := by
  cases a; cases b; simp only [ByteArray.mk.injEq]; exact Array.toList_inj.1 h

theorem cmpK_self (a : Key) : cmpK a a = 0 := by unfold cmpK; rw [if_pos (cb_self _), cb_self]
theorem cmpK_zero {a b : Key} (h : cmpK a b = 0) : a = b := by
  unfold cmpK at h
  by_cases h1 : compareBytes a.1.data.toList b.1.data.toList = 0
  · rw [if_pos h1] at h
    exact Prod.ext (ba_ext (cb_zero h1)) (ba_ext (cb_zero h))
  · rw [if_neg h1] at h; exact absurd h h1
theorem cmpK_neg (a b : Key) : cmpK b a = - cmpK a b := by
  unfold cmpK
  rw [cb_neg a.1.data.toList b.1.data.toList, cb_neg a.2.data.toList b.2.data.toList]
  by_cases h1 : compareBytes a.1.data.toList b.1.data.toList = 0
  · rw [if_pos h1, if_pos (by omega)]
  · rw [if_neg h1, if_neg (by omega)]
theorem cmpK_val (a b : Key) : cmpK a b = -1 ∨ cmpK a b = 0 ∨ cmpK a b = 1 := by
  unfold cmpK; split
  · exact cb_val _ _
  · exact cb_val _ _
theorem cmpK_trans {a b c : Key} (h : cmpK a b < 0) (k : cmpK b c < 0) : cmpK a c < 0 := by
  have h' : cmpK a b = -1 := by rcases cmpK_val a b with e | e | e <;> omega
  have k' : cmpK b c = -1 := by rcases cmpK_val b c with e | e | e <;> omega
  suffices cmpK a c = -1 by omega
  unfold cmpK at h' k' ⊢
  by_cases h1 : compareBytes a.1.data.toList b.1.data.toList = 0
  · rw [if_pos h1] at h'
    have e := cb_zero h1
    rw [← e] at k'
    by_cases k1 : compareBytes a.1.data.toList c.1.data.toList = 0
    · rw [if_pos k1] at k' ⊢; exact cb_trans h' k'
    · rw [if_neg k1] at k' ⊢; exact k'
  · rw [if_neg h1] at h'
    by_cases k1 : compareBytes b.1.data.toList c.1.data.toList = 0
    · have e := cb_zero k1
      rw [← e, if_neg (by omega)]; exact h'
    · rw [if_neg k1] at k'
      have t := cb_trans h' k'
      rw [if_neg (by omega)]; exact t

/-- strictly ascending -/
def Asc (l : List Key) : Prop := l.Pairwise fun a b => cmpK a b < 0

theorem Asc.nodup {l : List Key} (h : Asc l) : l.Nodup := List.Pairwise.imp (fun {a b} hab e => by subst e; rw [cmpK_self] at hab; omega) h

/-- Two ascending lists of the same keys are one. -/
theorem Asc.unique {l l' : List Key} (h : Asc l) (h' : Asc l') (hm : ∀ k, k ∈ l ↔ k ∈ l') : l = l' := by
  have hp : l.Perm l' := (List.perm_ext_iff_of_nodup h.nodup h'.nodup).2 hm
  refine List.Perm.eq_of_pairwise (le := fun a b => cmpK a b < 0) (fun a b _ _ h1 h2 => ?_) h h' hp
  rw [cmpK_neg] at h2; omega

/-- insertKey, as the Go text has it. -/
def insK (l : List Key) (k : Key) : List Key :=
  let p := (l.takeWhile fun x => decide (cmpK x k < 0)).length
  if (l.drop p).head?.map (fun x => cmpK x k) = some 0 then l else l.take p ++ [k] ++ l.drop p

theorem takeWhile_take (l : List Key) (f : Key → Bool) : l.take (l.takeWhile f).length = l.takeWhile f := by
  induction l with
  | nil => rfl
  | cons a l ih => by_cases h : f a <;> simp [h, ih]
theorem drop_takeWhile (l : List Key) (f : Key → Bool) : l.drop (l.takeWhile f).length = l.dropWhile f := by
  induction l with
  | nil => rfl
  | cons a l ih => by_cases h : f a <;> simp [h, ih]

theorem insK_said (l : List Key) (k : Key) (h : Asc l) : Asc (insK l k) ∧ ∀ x, x ∈ insK l k ↔ x = k ∨ x ∈ l := by
  unfold insK
  simp only []
  rw [takeWhile_take, drop_takeWhile]
  have hsplit : l.takeWhile (fun x => decide (cmpK x k < 0)) ++ l.dropWhile (fun x => decide (cmpK x k < 0)) = l := List.takeWhile_append_dropWhile
  have hA : ∀ x ∈ l.takeWhile (fun x => decide (cmpK x k < 0)), cmpK x k < 0 := by
    intro x hx
    have := List.all_takeWhile (p := fun x => decide (cmpK x k < 0)) (l := l)
    simpa using List.all_eq_true.1 this x hx
  have hD : ∀ y r, l.dropWhile (fun x => decide (cmpK x k < 0)) = y :: r → ¬ cmpK y k < 0 := by
    intro y r e
    have := List.head?_dropWhile_not (fun x => decide (cmpK x k < 0)) l
    rw [e] at this
    simpa using this
  generalize l.takeWhile (fun x => decide (cmpK x k < 0)) = A at *
  generalize l.dropWhile (fun x => decide (cmpK x k < 0)) = D at *
  subst hsplit
  by_cases hc : D.head?.map (fun x => cmpK x k) = some 0
  · rw [if_pos hc]
    refine ⟨h, fun x => ⟨.inr, ?_⟩⟩
    rintro (rfl | hx)
    · cases D with
      | nil => simp at hc
      | cons y r =>
        simp at hc
        rw [cmpK_zero hc]; simp
    · exact hx
  · rw [if_neg hc]
    have hall : ∀ y ∈ D, cmpK k y < 0 := by
      intro y hy
      cases D with
      | nil => cases hy
      | cons z r =>
        have hz := hD z r rfl
        have hz0 : cmpK z k ≠ 0 := fun e => hc (by simp [e])
        have hkz : cmpK k z < 0 := by rw [cmpK_neg]; omega
        rcases List.mem_cons.1 hy with rfl | hy
        · exact hkz
        · have hp := (List.pairwise_append.1 h).2.1
          exact cmpK_trans hkz ((List.pairwise_cons.1 hp).1 y hy)
    have hp := List.pairwise_append.1 h
    refine ⟨?_, fun x => ?_⟩
    · show List.Pairwise _ _
      rw [List.append_assoc, List.pairwise_append]
      refine ⟨hp.1, ?_, ?_⟩
      · rw [List.singleton_append, List.pairwise_cons]
        exact ⟨hall, hp.2.1⟩
      · intro x hx y hy
        rcases List.mem_append.1 hy with hy | hy
        · simp at hy; subst hy; exact hA x hx
        · exact hp.2.2 x hx y hy
    · simp only [List.mem_append, List.mem_singleton]
      constructor
      · rintro ((h1 | h1) | h1)
        · exact .inr (.inl h1)
        · exact .inl h1
        · exact .inr (.inr h1)
      · rintro (h1 | h1 | h1)
        · exact .inl (.inr h1)
        · exact .inl (.inl h1)
        · exact .inr h1

end Go.Proofs.Qxb6608833a
