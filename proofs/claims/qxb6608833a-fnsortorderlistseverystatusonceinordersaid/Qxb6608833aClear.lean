import Derived.Test.Qxb6608833aStore
namespace Go.Proofs.Qxb6608833a
open Go.RowKit

theorem own0 {w : World} {base : Nat} {e : TypeId} {size : Nat} {v : Value} {n : Nat} {xs : List Value} (h : w.ownsRow base e size v n xs) : w.ownsRow 0 e size v n xs := by
  refine ⟨h.1, ?_⟩
  rcases h.2 with hn | ⟨g, cap, cur, rfl, _, rest⟩
  · exact .inl hn
  · exact .inr ⟨g, cap, cur, rfl, Nat.zero_le _, rest⟩

theorem own_ne {w : World} {base : Nat} {v : Value} {n : Nat} {xs : List Value} (h : w.ownsRow base 103 2 v n xs) {k : Nat} {o : Obj} (ho : w.heap[k]? = some o) (hne : ∀ c, o ≠ .cells c 103 (0, 0)) : v.ownBlock ≠ some k := by
  intro e
  rcases h.2 with ⟨rfl, _⟩ | ⟨g, cap, cur, rfl, _, hg, _⟩
  · cases e
  · cases e
    rw [hg] at ho
    exact hne cur (Option.some.inj ho).symm

theorem own_ne_store {w : World} {base : Nat} {v : Value} {n : Nat} {xs : List Value} (h : w.ownsRow base 103 2 v n xs) {S : Nat} {st cnt : Int} {B u : Nat} {v' : Value} {s : Bool} (hS : StoreAt w S st cnt B u v' s) : v.ownBlock ≠ some S :=
  own_ne h hS (fun c e => by cases e)
theorem own_ne_map {w : World} {base : Nat} {v : Value} {n : Nat} {xs : List Value} (h : w.ownsRow base 103 2 v n xs) {b m : Nat} {D : DataW Unit} (hM : w.ownsMap Try.prog 103 RS b m D) : v.ownBlock ≠ some b := by
  obtain ⟨es, clock, hb, _⟩ := hM
  exact own_ne h hb (fun c e => by cases e)
theorem own_ne_iter {w : World} {base : Nat} {v : Value} {n : Nat} {xs : List Value} (h : w.ownsRow base 103 2 v n xs) {b r m : Nat} {D : DataW Unit} {left : Lit → Bool} {cnt : Nat} (hM : w.ranges Try.prog 103 RS b r m D left cnt) : v.ownBlock ≠ some r := by
  obtain ⟨es, clock, since, seen, c0, _, _, _, _, hr, _⟩ := hM
  exact own_ne h hr (fun c e => by cases e)
theorem store_ne_map {w : World} {S : Nat} {st cnt : Int} {B u : Nat} {v' : Value} {s : Bool} (hS : StoreAt w S st cnt B u v' s) {b m : Nat} {D : DataW Unit} (hM : w.ownsMap Try.prog 103 RS b m D) : S ≠ b := by
  obtain ⟨es, clock, hb, _⟩ := hM
  intro e; rw [StoreAt, e, hb] at hS; cases hS
theorem store_ne_iter {w : World} {S : Nat} {st cnt : Int} {B u : Nat} {v' : Value} {s : Bool} (hS : StoreAt w S st cnt B u v' s) {b r m : Nat} {D : DataW Unit} {left : Lit → Bool} {cnt : Nat} (hM : w.ranges Try.prog 103 RS b r m D left cnt) : S ≠ r := by
  obtain ⟨es, clock, since, seen, c0, _, _, _, _, hr, _⟩ := hM
  intro e; rw [StoreAt, e, hr] at hS; cases hS

/-- The builtin clear, at a row that is owned. -/
theorem clear_own {w : World} {a : Option Addr} {n cap : Nat} {xs : List Value} (h : w.ownsRow 0 103 2 (.slice a n cap) n xs) :
    ∃ w1 xs', (∀ ty, (Builtin.clear_ #[40] ty #[.slice a n cap]).run Try.prog w = .ok (.tuple #[]) w1) ∧ w1.ownsRow 0 103 2 (.slice a n cap) n xs' ∧ w.grownBy w1 (Value.slice a n cap).ownBlock := by
  by_cases hn : n = 0
  · subst hn
    exact ⟨w, xs, fun ty => by cases a <;> simp [Builtin.clear_, run_underlying Try.underlying40], h, World.grownBy.refl _ _⟩
  · obtain ⟨m, rfl⟩ : ∃ m, n = m + 1 := ⟨n - 1, by omega⟩
    rcases h.2 with ⟨_, h0⟩ | ⟨g, cap', cur, hv, hb, hg, hnc, hcm, hcs, htake⟩
    · omega
    · cases hv
      have hl : (Builtin.zeroCells (Value.agg #[.string ⟨#[]⟩, .string ⟨#[]⟩]).cells (m + 1)).toList.length = (m + 1) * 2 := by simp [Builtin.zeroCells, Value.cells]
      have h1 : ∀ v ∈ (Builtin.zeroCells (Value.agg #[.string ⟨#[]⟩, .string ⟨#[]⟩]).cells (m + 1)).toList, v.oneCell' = true := by
        intro v hv
        simp only [Builtin.zeroCells, Value.cells, Array.toList_map, List.mem_map] at hv
        obtain ⟨i, _, rfl⟩ := hv
        have : i % (#[Value.string ⟨#[]⟩, Value.string ⟨#[]⟩] : Array Value).size < 2 := Nat.mod_lt _ (by decide)
        generalize i % (#[Value.string ⟨#[]⟩, Value.string ⟨#[]⟩] : Array Value).size = j at this
        match j, this with
        | 0, _ => rfl
        | 1, _ => rfl
      generalize hz : (Builtin.zeroCells (Value.agg #[.string ⟨#[]⟩, .string ⟨#[]⟩]).cells (m + 1)).toList = zs at hl h1
      have hmul : (m + 1) * 2 ≤ cap * 2 := Nat.mul_le_mul_right 2 hnc
      have hst := run_storeCells_at (P := Try.prog) g 0 103 zs 0 cur w hg (by omega) h1
      simp only [Nat.add_zero, Nat.zero_add, List.take_zero, List.nil_append] at hst
      refine ⟨w.setRow g (zs ++ cur.toList.drop zs.length).toArray, zs, fun ty => ?_, ⟨hl, .inr ⟨g, cap, (zs ++ cur.toList.drop zs.length).toArray, rfl, hb, setRow_heap w g cur _ 103 _ hg, hnc, hcm, ?_, ?_⟩⟩, ⟨rfl, rfl, rfl, by simp, fun k _ hk => setRow_other w g k _ (fun e => hk (by simp [Value.ownBlock, e]))⟩⟩
      · simp only [Builtin.clear_]
        simp [run_underlying Try.underlying40, Try.zeroValue103, hz, hst]
      · simp; omega
      · simp [← hl]

/-- What has come out of the map so far. -/
structure Coll (D : DataW Unit) (left : Lit → Bool) (L : List Key) : Prop where
  has : ∀ kl, Maps.has D kl = true ↔ left kl = true ∨ ∃ p ∈ L, KL p kl
  out : ∀ p ∈ L, ∀ kl, KL p kl → left kl = false
  key : ∀ p ∈ L, ∃ kl, KL p kl
  nodup : L.Nodup

theorem Coll.start (D : DataW Unit) : Coll D (Maps.has D) [] := ⟨fun kl => by simp, fun p hp => (nomatch hp), fun p hp => (nomatch hp), List.nodup_nil⟩
theorem Coll.step {D : DataW Unit} {left : Lit → Bool} {L : List Key} (h : Coll D left L) {x : Key} {kl : Lit} (hx : KL x kl) (hl : left kl = true) : Coll D (fun z => left z && !z.sameKey kl) (L ++ [x]) := by
  have hself : kl.sameKey kl = true := WideAt.sameKey_self (Try.keyed103.key hx)
  refine ⟨fun z => ?_, fun p hp z hz => ?_, fun p hp => ?_, ?_⟩
  · rw [h.has]
    by_cases e : z = kl
    · subst e
      constructor
      · intro _; exact .inr ⟨x, by simp, hx⟩
      · intro _; exact .inl hl
    · have hne : z.sameKey kl = false := by
        cases hs : z.sameKey kl
        · rfl
        · exact absurd (WideAt.sameKey_eq hs) e
      simp only [hne, Bool.not_false, Bool.and_true]
      constructor
      · rintro (h1 | ⟨p, hp, k⟩)
        · exact .inl h1
        · exact .inr ⟨p, by simp [hp], k⟩
      · rintro (h1 | ⟨p, hp, k⟩)
        · exact .inl h1
        · rcases List.mem_append.1 hp with hp | hp
          · exact .inr ⟨p, hp, k⟩
          · simp at hp; subst hp; exact absurd (k.fn hx) e
  · rcases List.mem_append.1 hp with hp | hp
    · simp [h.out p hp z hz]
    · simp at hp; subst hp
      rw [hz.fn hx, hself]; simp
  · rcases List.mem_append.1 hp with hp | hp
    · exact h.key p hp
    · simp at hp; subst hp; exact ⟨kl, hx⟩
  · rw [List.nodup_append]
    refine ⟨h.nodup, by simp, ?_⟩
    intro p hp q hq
    simp at hq; subst hq
    intro e; subst e
    have := h.out p hp kl hx
    rw [hl] at this; cases this
theorem Coll.done {D : DataW Unit} {left : Lit → Bool} {L ks : List Key} (h : Coll D left L) (hm : MK D ks) (hz : Sz ks) (hl : ∀ kl, left kl = false) (p : Key) : p ∈ L ↔ p ∈ ks := by
  constructor
  · intro hp
    obtain ⟨kl, hk⟩ := h.key p hp
    obtain ⟨q, hq, k⟩ := (hm.has kl).1 ((h.has kl).2 (.inr ⟨p, hp, hk⟩))
    rw [hk.inj k]; exact hq
  · intro hp
    obtain ⟨kl, hk⟩ := KL.mk p (by unfold maxLen; exact (hz p hp).1) (by unfold maxLen; exact (hz p hp).2)
    rcases (h.has kl).1 ((hm.has kl).2 ⟨p, hp, hk⟩) with h1 | ⟨q, hq, k⟩
    · rw [hl] at h1; cases h1
    · rw [hk.inj k]; exact hq

theorem size_le {w : World} {b m : Nat} {D : DataW Unit} (h : w.ownsMap Try.prog 103 RS b m D) : Maps.size D ≤ m := by
  obtain ⟨es, clock, _, _, hs, rfl⟩ := h
  simp only [Maps.size, length_sorted, List.length_map]
  simpa using hs

/-- The cells of a list of keys. -/
def kvl (L : List Key) : List Value := L.flatMap fun p => [.string p.1, .string p.2]
theorem kvl_snoc (L : List Key) (p : Key) : kvl (L ++ [p]) = kvl L ++ [.string p.1, .string p.2] := by simp [kvl]
theorem kvl_at : ∀ (L : List Key) (j : Nat), j < L.length → (kvl L)[j * 2]? = some (.string (L[j]?.getD nk).1) ∧ (kvl L)[j * 2 + 1]? = some (.string (L[j]?.getD nk).2)
  | [], j, h => by simp at h
  | p :: L, 0, _ => by simp [kvl]
  | p :: L, j + 1, h => by
    have := kvl_at L j (by simpa using h)
    have e1 : (j + 1) * 2 = j * 2 + 1 + 1 := by omega
    have e2 : (j + 1) * 2 + 1 = j * 2 + 1 + 1 + 1 := by omega
    have e : kvl (p :: L) = .string p.1 :: .string p.2 :: kvl L := by simp [kvl]
    rw [e2, e1, e]
    simpa using this

end Go.Proofs.Qxb6608833a
