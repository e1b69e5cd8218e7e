import Derived.Test.Qxb6608833aKRows
namespace Go.Proofs.Qxb6608833a
open Go.RowKit

/-- Every string of the keys is short. -/
def Small (ks : List Key) : Prop := ∀ k ∈ ks, k.1.size ≤ 1048576 ∧ k.2.size ≤ 1048576
theorem Small.at {ks : List Key} (h : Small ks) (j : Nat) (hj : j < ks.length) : (ks[j]?.getD nk).1.size ≤ 1048576 ∧ (ks[j]?.getD nk).2.size ≤ 1048576 := by
  rw [List.getElem?_eq_getElem hj]; exact h _ (List.getElem_mem _)
theorem Small.sz {ks : List Key} (h : Small ks) : Sz ks := fun k hk => ⟨by have := (h k hk).1; omega, by have := (h k hk).2; omega⟩
theorem Small.snoc {ks : List Key} {k : Nat} (h : Small (ks.take k)) (hk : k < ks.length) (h1 : (ks[k]?.getD nk).1.size ≤ 1048576) (h2 : (ks[k]?.getD nk).2.size ≤ 1048576) : Small (ks.take (k + 1)) := by
  rw [List.take_succ_eq_append_getElem hk]
  rw [List.getElem?_eq_getElem hk] at h1 h2
  intro x hx
  rcases List.mem_append.1 hx with hx | hx
  · exact h x hx
  · simp at hx; subst hx; exact ⟨h1, h2⟩

set_option maxRecDepth 100000 in
set_option maxHeartbeats 4000000 in
theorem zzBytesP_any (a : Option Addr) (cap : Nat) (ks : List Key) (h t : ByteArray) (w : World) (hl : ks.length ≤ 9223372036854775807) (hs : Sz ks) (hh : h.size ≤ 9223372036854775807) (ht : t.size ≤ 9223372036854775807) (hR : KRow w a ks) :
    Calls Try.prog 29 #[.slice a ks.length cap, .string h, .string t] w fun e w' => (e = .returned (.bool false) ∨ (e = .returned (.bool true) ∧ ks.length ≤ 1048576 ∧ Small ks ∧ h.size ≤ 1048576 ∧ t.size ≤ 1048576)) ∧ w = w' := by
  by_cases h0 : ks.length ≤ 1048576
  case neg => go_enter Try.func29, Try.ntmps29; go_wp2; go_ret; first | exact ⟨.inl rfl, rfl⟩ | exact ⟨rfl, rfl⟩
  have d1 : decide ((1048576 : Int) < (ks.length : Int)) = false := decide_eq_false (by omega)
  go_enter Try.func29, Try.ntmps29
  go_wp2
  go_loop [7, 8] (fun z i => ∃ (k : Nat) (n : Int), k ≤ ks.length ∧ i = .int .i64 k ∧ z = .int .i64 n ∧ 0 ≤ n ∧ n ≤ 1048576 ∧ Small (ks.take k)) (fun _ i => ks.length - (intOf i).toNat)
  case atStart => exact ⟨0, _, Nat.zero_le _, rfl, rfl, by omega, by omega, fun x hx => by simp at hx⟩
  case round =>
    obtain ⟨k, n, hk, rfl, rfl, n0, n1, hsm⟩ := hrel
    have HS : Hid (Small (ks.take k)) := hsm
    clear hsm
    by_cases hlt : k < ks.length
    · rcases hR with rfl | ⟨b, off, rfl, hb, hc⟩
      · simp at hlt
      have x0 := (hc k hlt).1
      have x1 := (hc k hlt).2
      have s0 := hs.at k hlt
      have HN : Hid ((ks[k]?.getD nk).1.size ≤ 1048576 → (ks[k]?.getD nk).2.size ≤ 1048576 → Small (ks.take (k + 1))) := fun u1 u2 => HS.out.snoc hlt u1 u2
      generalize ks[k]?.getD nk = p at *
      obtain ⟨s0, s1⟩ := s0
      clear hc
      by_cases k1 : p.1.size ≤ 1048576
      case neg => go_wp2; go_ret; first | exact ⟨.inl rfl, rfl⟩ | exact ⟨rfl, rfl⟩
      by_cases k2 : n + p.1.size ≤ 1048576
      case neg => go_wp2; go_ret; first | exact ⟨.inl rfl, rfl⟩ | exact ⟨rfl, rfl⟩
      by_cases k3 : p.2.size ≤ 1048576
      case neg => go_wp2; go_ret; first | exact ⟨.inl rfl, rfl⟩ | exact ⟨rfl, rfl⟩
      by_cases k4 : n + p.1.size + p.2.size ≤ 1048576
      case neg => go_wp2; go_ret; first | exact ⟨.inl rfl, rfl⟩ | exact ⟨rfl, rfl⟩
      go_wp2
      go_round
      case rel => exact ⟨k + 1, _, by omega, by go_num, rfl, by omega, by omega, HN.out k1 k3⟩
      case measure => simp [intOf]; omega
    · have hall : Small ks := by have := HS.out; rwa [List.take_of_length_le (by omega)] at this
      by_cases k1 : h.size ≤ 1048576
      case neg => go_wp2; go_ret; first | exact ⟨.inl rfl, rfl⟩ | exact ⟨rfl, rfl⟩
      by_cases k2 : n + h.size ≤ 1048576
      case neg => go_wp2; go_ret; first | exact ⟨.inl rfl, rfl⟩ | exact ⟨rfl, rfl⟩
      by_cases k3 : t.size ≤ 1048576
      case neg => go_wp2; go_ret; first | exact ⟨.inl rfl, rfl⟩ | exact ⟨rfl, rfl⟩
      by_cases k4 : n + h.size + t.size ≤ 1048576
      case neg => go_wp2; go_ret; first | exact ⟨.inl rfl, rfl⟩ | exact ⟨rfl, rfl⟩
      go_wp2
      go_ret
      first
        | exact ⟨.inr ⟨rfl, h0, hall, k1, k3⟩, rfl⟩
        | exact ⟨.inr ⟨rfl, hall, k1, k3⟩, rfl⟩
        | exact ⟨.inr ⟨rfl, hall⟩, rfl⟩
        | exact ⟨.inr rfl, rfl⟩

set_option maxRecDepth 100000 in
set_option maxHeartbeats 4000000 in
theorem keysBytes_any (a : Option Addr) (cap : Nat) (ks : List Key) (L : Int) (w : World) (hl : ks.length ≤ 1048576) (hs : Small ks) (L0 : 0 ≤ L) (L1 : L ≤ 1048576) (hR : KRow w a ks) :
    Calls Try.prog 17 #[.slice a ks.length cap, .int .i64 L] w fun e w' => ∃ n : Int, 0 ≤ n ∧ n ≤ 4194304 ∧ e = .returned (.int .i64 n) ∧ w = w' := by
  go_enter Try.func17, Try.ntmps17
  go_wp2
  go_loop [5, 6] (fun z i => ∃ (k : Nat) (n : Int), k ≤ ks.length ∧ i = .int .i64 k ∧ z = .int .i64 n ∧ 0 ≤ n ∧ n ≤ L) (fun _ i => ks.length - (intOf i).toNat)
  case atStart => exact ⟨0, _, Nat.zero_le _, rfl, rfl, by omega, by omega⟩
  case round =>
    obtain ⟨k, n, hk, rfl, rfl, n0, n1⟩ := hrel
    by_cases hlt : k < ks.length
    · rcases hR with rfl | ⟨b, off, rfl, hb, hc⟩
      · simp at hlt
      have x0 := (hc k hlt).1
      have x1 := (hc k hlt).2
      have s0 := hs.at k hlt
      generalize ks[k]?.getD nk = p at *
      obtain ⟨s0, s1⟩ := s0
      clear hc
      by_cases k1 : n + 32 + p.1.size ≤ L
      case neg => go_wp2; go_ret; exact ⟨_, by omega, by omega, rfl, rfl⟩
      by_cases k2 : n + 32 + p.1.size + p.2.size ≤ L
      case neg => go_wp2; go_ret; exact ⟨_, by omega, by omega, rfl, rfl⟩
      go_wp2
      go_round
      case rel => exact ⟨k + 1, _, by omega, by go_num, rfl, by omega, by omega⟩
      case measure => simp [intOf]; omega
    · go_wp2
      go_ret
      exact ⟨n, by omega, by omega, rfl, rfl⟩

set_option maxRecDepth 100000 in
set_option maxHeartbeats 2000000 in
/-- sameKeys, of one list twice. -/
theorem sameKeys_any (a a' : Option Addr) (cap cap' : Nat) (ks : List Key) (w : World) (hl : ks.length ≤ 1048577) (hR : KRow w a ks) (hR' : KRow w a' ks) :
    Calls Try.prog 27 #[.slice a ks.length cap, .slice a' ks.length cap'] w fun e w' => e = .returned (.bool true) ∧ Dw w w' := by
  have d0 : ((ks.length : Int) != (ks.length : Int)) = false := by simp
  go_enter Try.func27, Try.ntmps27
  go_wp2
  go_loopw [5] (fun i wr => ∃ k : Nat, k ≤ ks.length ∧ i = .int .i64 k ∧ Dw w wr) (fun i _ => ks.length - (intOf i).toNat)
  case atStart => exact ⟨0, Nat.zero_le _, rfl, Dw.refl _⟩
  case round =>
    obtain ⟨k, hk, rfl, hdw⟩ := hrel
    by_cases hlt : k < ks.length
    · rcases hR with rfl | ⟨b, off, rfl, hb, hc⟩
      · simp at hlt
      rcases hR' with rfl | ⟨b', off', rfl, hb', hc'⟩
      · simp at hlt
      have HD : Hid (Dw w wr) := hdw
      obtain ⟨q, rfl⟩ := hdw
      have x0 := (hc k hlt).1
      have x1 := (hc k hlt).2
      have y0 := (hc' k hlt).1
      have y1 := (hc' k hlt).2
      generalize ks[k]?.getD nk = p at *
      have i0 : (0 : Int) ≤ (k : Int) := by omega
      have i1 : (k : Int) < (ks.length : Int) := by omega
      have e1 : (!(p.1.toList == p.1.toList)) = false := by simp
      clear hc hc'
      go_wp2
      go_quiet (fail)
      go_wp2
      go_roundw
      case rel => exact ⟨k + 1, by omega, by go_num, by first | exact HD.out.more _ | exact ⟨_, rfl⟩⟩
      case measure => simp [intOf]; omega
    · go_wp2
      go_ret
      exact ⟨rfl, hdw⟩

end Go.Proofs.Qxb6608833a
