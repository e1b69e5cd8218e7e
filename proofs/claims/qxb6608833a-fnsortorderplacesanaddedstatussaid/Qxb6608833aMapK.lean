import Derived.Test.Qxb6608833aOrders
import Derived.DeepKeys4
import Derived.Maps.RangeWalk
import Derived.Maps.Views
import Derived.KernelRfl
namespace Go.Proofs.Qxb6608833a
open Go.RowKit

/-- A key's value. -/
def kvv (p : Key) : Value := .agg #[.string p.1, .string p.2]

theorem Try.laidOutK : laidOutB Try.prog = true := by kernel_rfl
theorem Try.row103 : (103 : TypeId) < Try.prog.types.size := of_decide_eq_true (by kernel_rfl)
theorem Try.wide103 : (match Try.prog.underlying 103 with | some (.array _ _) | some (.struct _) => true | _ => false) = true := by rw [Try.underlying103]
theorem Try.kt103 : Try.prog.keyTypeAt 2 103 = true := by kernel_rfl
set_option maxRecDepth 100000 in
theorem Try.keyed103 : Maps.Keyed Try.prog 103 := Maps.Keyed.of_law (deep_law_laid Try.laidOutK (m := 2) (by omega) Try.row103 Try.kt103 Try.wide103)
theorem Try.cells103 : Try.prog.cellsOf 103 = 2 := by kernel_rfl
theorem Try.cells9 : Try.prog.cellsOf 9 = 1 := by kernel_rfl
theorem Try.keyType103 : Try.prog.keyType 103 = true := by kernel_rfl
theorem Try.typesSize : ∃ n, Try.prog.types.size = n + 1 := ⟨_, Nat.eq_add_of_sub_eq (Nat.lt_of_le_of_lt (Nat.zero_le _) Try.row103) rfl⟩

/-- The key reads as this. -/
def KL (p : Key) (kl : Lit) : Prop := keyOf Try.prog 103 (kvv p) = some kl

theorem lits (n : Nat) (s t : ByteArray) (hs : s.size ≤ maxLen) (ht : t.size ≤ maxLen) : Try.prog.keyLits (n + 2) 103 [.string s, .string t] = some [.string s.data.toList, .string t.data.toList] := by
  simp [Program.keyLits, Try.underlying103, Try.underlying9, Try.cells103, Try.cells9, hs, ht]

theorem KL.mk (p : Key) (h1 : p.1.size ≤ maxLen) (h2 : p.2.size ≤ maxLen) : ∃ kl, KL p kl := by
  obtain ⟨n, hn⟩ := Try.typesSize
  unfold KL keyOf kvv
  rw [Try.underlying103]
  simp only [Try.keyType103, Value.formed, Try.underlying103, Try.cells103, Value.cells, hn, lits _ _ _ h1 h2]
  exact ⟨_, rfl⟩

theorem KL.inj {p q : Key} {kl : Lit} (h : KL p kl) (k : KL q kl) : p = q := by
  have := Try.keyed103.inj h k
  unfold kvv at this
  simp at this
  exact Prod.ext this.1 this.2
theorem KL.fn {p : Key} {kl kl' : Lit} (h : KL p kl) (k : KL p kl') : kl = kl' := Option.some.inj (h.symm.trans k)

set_option maxRecDepth 100000 in
theorem keyOf103 (v : Value) : keyOf Try.prog 103 v = if v.formed Try.prog 103 = true then (Try.prog.keyLits (Try.prog.types.size + 1) 103 v.cells.toList).map (fun ls => .string (keyBytes ls)) else none := by
  unfold keyOf
  rw [Try.underlying103]
  simp only [Try.keyType103, Bool.true_and]

set_option maxRecDepth 100000 in
theorem KL.inv (key : Value) (kl : Lit) (h : keyOf Try.prog 103 key = some kl) : ∃ p : Key, key = kvv p := by
  obtain ⟨n, hn⟩ := Try.typesSize
  rw [keyOf103] at h
  split at h
  · rename_i hf
    cases key <;> simp [Value.formed, Try.underlying103, Try.cells103] at hf
    rename_i cs
    obtain ⟨ls, hls, _⟩ := Option.map_eq_some_iff.1 h
    rw [hn] at hls
    obtain ⟨cl⟩ := cs
    match cl, hf with
    | [a, b], _ =>
      simp only [Value.cells] at hls
      unfold Program.keyLits at hls
      rw [Try.underlying103] at hls
      simp [Try.cells103, Try.cells9] at hls
      cases ha : Try.prog.keyLits (n + 1) 9 [a] with
      | none => rw [ha] at hls; simp at hls
      | some la =>
        cases hb : Try.prog.keyLits (n + 1) 9 [b] with
        | none => rw [ha, hb] at hls; simp at hls
        | some lb =>
          obtain ⟨s, hs, _⟩ := keyLits_string' Try.underlying9 ha
          obtain ⟨t, ht, _⟩ := keyLits_string' Try.underlying9 hb
          simp only [List.cons.injEq, and_true] at hs ht
          subst hs ht
          exact ⟨(s, t), rfl⟩
  · cases h

/-- A status of which only the host and the test are set. -/
def statusV (p : Key) : Value := .agg #[.string p.1, .string p.2, .int .u8 0, .int .u8 0, .pointer none, .string ⟨#[]⟩, .int .u64 0, .int .i64 0, .pointer none, .int .i64 0, .int .u64 0, .int .i64 0, .pointer none, .string ⟨#[]⟩]

def datum (p : Key) : DataW Unit := .agg [.lit (.string p.1.data.toList), .lit (.string p.2.data.toList)]
theorem statusV_inj {p q : Key} (h : statusV p = statusV q) : p = q := by
  simp only [statusV, Value.agg.injEq, Array.mk.injEq, List.cons.injEq, Value.string.injEq] at h
  exact Prod.ext h.1 h.2.1

open Classical in
/-- How such a status reads: its host and its test. -/
noncomputable def RS (v : Value) : Option (DataW Unit × List MemPlace) :=
  if h : ∃ p : Key, v = statusV p then some (datum h.choose, []) else none

theorem RS_mk (p : Key) : RS (statusV p) = some (datum p, []) := by
  have h : ∃ q : Key, statusV p = statusV q := ⟨p, rfl⟩
  unfold RS
  rw [dif_pos h, ← statusV_inj h.choose_spec]
theorem RS_inv {v : Value} {y : DataW Unit × List MemPlace} (h : RS v = some y) : ∃ p : Key, v = statusV p ∧ y = (datum p, []) := by
  unfold RS at h
  split at h
  · rename_i hx
    cases h
    exact ⟨hx.choose, hx.choose_spec, rfl⟩
  · cases h
theorem datum_inj {p q : Key} (h : datum p = datum q) : p = q := by
  simp only [datum, DataW.agg.injEq, List.cons.injEq, DataW.lit.injEq, Lit.string.injEq, and_true] at h
  exact Prod.ext (ba_ext h.1) (ba_ext h.2)

/-- The map's datum holds just these keys, each with its own status. -/
structure MK (D : DataW Unit) (ks : List Key) : Prop where
  map : Maps.IsMap D
  has : ∀ kl, Maps.has D kl = true ↔ ∃ p ∈ ks, KL p kl
  at' : ∀ p ∈ ks, ∀ kl z, KL p kl → D.atKey kl z = datum p

theorem MK.nil : MK (.map []) [] := ⟨⟨_, rfl⟩, fun kl => by simp [Maps.has], fun p hp => by cases hp⟩
theorem MK.put {D : DataW Unit} {ks : List Key} {p : Key} {kl : Lit} (h : MK D ks) (hk : KL p kl) : MK (D.put kl (datum p)) (ks ++ [p]) := by
  have hkl := Try.keyed103.key hk
  refine ⟨?_, fun kl' => ?_, fun q hq kl' z hq' => ?_⟩
  · obtain ⟨es, rfl⟩ := h.map; exact ⟨_, rfl⟩
  · by_cases e : kl' = kl
    · subst e
      rw [Maps.has_put_same h.map hkl]
      exact ⟨fun _ => ⟨p, by simp, hk⟩, fun _ => rfl⟩
    · rw [Maps.has_put_other e, h.has]
      constructor
      · rintro ⟨q, hq, k⟩; exact ⟨q, by simp [hq], k⟩
      · rintro ⟨q, hq, k⟩
        rcases List.mem_append.1 hq with hq | hq
        · exact ⟨q, hq, k⟩
        · simp at hq; subst hq; exact absurd (k.fn hk) e
  · by_cases e : kl' = kl
    · subst e
      rw [Maps.atKey_put_same h.map hkl, hq'.inj hk]
    · rw [Maps.atKey_put_other e]
      rcases List.mem_append.1 hq with hq | hq
      · exact h.at' q hq kl' z hq'
      · simp at hq; subst hq; exact absurd (hq'.fn hk) e

end Go.Proofs.Qxb6608833a
