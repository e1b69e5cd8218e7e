import Derived.Test.Qxb6608833aKBytes
namespace Go.Proofs.Qxb6608833a
open Go.RowKit

set_option maxRecDepth 100000 in
set_option maxHeartbeats 4000000 in
theorem zzBytesL_any (a : Option Addr) (cap : Nat) (ks : List Key) (a' : Option Addr) (cap' : Nat) (ts : List Key) (w : World) (hl : ks.length ≤ 9223372036854775807) (hs : Sz ks) (hl' : ts.length ≤ 9223372036854775807) (hs' : Sz ts) (hR : KRow w a ks) (hR' : KRow w a' ts) :
    Calls Try.prog 16 #[.slice a ks.length cap, .slice a' ts.length cap'] w fun e w' => (e = .returned (.bool false) ∨ (e = .returned (.bool true) ∧ ks.length ≤ 1048576 ∧ Small ks ∧ ts.length ≤ 1048576 ∧ Small ts)) ∧ w = w' := by
  by_cases h0 : ks.length ≤ 1048576
  case neg => go_enter Try.func16, Try.ntmps16; go_wp2; go_ret; first | exact ⟨.inl rfl, rfl⟩ | exact ⟨rfl, rfl⟩
  have d1 : decide ((1048576 : Int) < (ks.length : Int)) = false := decide_eq_false (by omega)
  go_enter Try.func16, Try.ntmps16
  go_wp2
  go_loop [5, 6] (fun z i => ∃ (k : Nat) (n : Int), k ≤ ks.length ∧ i = .int .i64 k ∧ z = .int .i64 n ∧ 0 ≤ n ∧ n ≤ 1048576 ∧ Small (ks.take k)) (fun _ i => ks.length - (intOf i).toNat)
  case atStart => exact ⟨0, _, Nat.zero_le _, rfl, rfl, by omega, by omega, fun x hx => by simp at hx⟩
  case round =>
    obtain ⟨k, n, hk, rfl, rfl, n0, n1, hsm⟩ := hrel
    have HS : Hid (Small (ks.take k)) := hsm
    clear hsm
    by_cases hlt : k < ks.length
    · rcases hR with rfl | ⟨b, off, rfl, hb, hc⟩
      · simp at hlt
      have x0 := (hc k hlt).1
      have x1 := (hc k hlt).2
      have s0 := hs.at k hlt
      have HN : Hid ((ks[k]?.getD nk).1.size ≤ 1048576 → (ks[k]?.getD nk).2.size ≤ 1048576 → Small (ks.take (k + 1))) := fun u1 u2 => HS.out.snoc hlt u1 u2
      generalize ks[k]?.getD nk = p at *
      obtain ⟨s0, s1⟩ := s0
      clear hc
      by_cases k1 : p.1.size ≤ 1048576
      case neg => go_wp2; go_ret; first | exact ⟨.inl rfl, rfl⟩ | exact ⟨rfl, rfl⟩
      by_cases k2 : n + p.1.size ≤ 1048576
      case neg => go_wp2; go_ret; first | exact ⟨.inl rfl, rfl⟩ | exact ⟨rfl, rfl⟩
      by_cases k3 : p.2.size ≤ 1048576
      case neg => go_wp2; go_ret; first | exact ⟨.inl rfl, rfl⟩ | exact ⟨rfl, rfl⟩
      by_cases k4 : n + p.1.size + p.2.size ≤ 1048576
      case neg => go_wp2; go_ret; first | exact ⟨.inl rfl, rfl⟩ | exact ⟨rfl, rfl⟩
      go_wp2
      go_round
      case rel => exact ⟨k + 1, _, by omega, by go_num, rfl, by omega, by omega, HN.out k1 k3⟩
      case measure => simp [intOf]; omega
    · have hall : Small ks := by have := HS.out; rwa [List.take_of_length_le (by omega)] at this
      have HAll : Hid (Small ks) := hall
      clear hall
      by_cases t0 : ts.length ≤ 1048576
      case neg => go_wp2; go_ret; first | exact ⟨.inl rfl, rfl⟩ | exact ⟨rfl, rfl⟩
      have d2 : decide ((1048576 : Int) < (ts.length : Int)) = false := decide_eq_false (by omega)
      by_cases t1 : n + ts.length ≤ 1048576
      case neg => go_wp2; go_ret; first | exact ⟨.inl rfl, rfl⟩ | exact ⟨rfl, rfl⟩
      go_wp2
      go_loop [5, 7] (fun z i => ∃ (k : Nat) (n : Int), k ≤ ts.length ∧ i = .int .i64 k ∧ z = .int .i64 n ∧ 0 ≤ n ∧ n ≤ 1048576 ∧ Small (ts.take k)) (fun _ i => ts.length - (intOf i).toNat)
      case atStart => exact ⟨0, _, Nat.zero_le _, rfl, rfl, by omega, by omega, fun x hx => by simp at hx⟩
      case round =>
        obtain ⟨k', n', hk', rfl, rfl, n0', n1', hsm'⟩ := hrel
        have HS' : Hid (Small (ts.take k')) := hsm'
        clear hsm'
        by_cases hlt' : k' < ts.length
        · rcases hR' with rfl | ⟨b, off, rfl, hb, hc⟩
          · simp at hlt'
          have x0 := (hc k' hlt').1
          have x1 := (hc k' hlt').2
          have s0 := hs'.at k' hlt'
          have HN : Hid ((ts[k']?.getD nk).1.size ≤ 1048576 → (ts[k']?.getD nk).2.size ≤ 1048576 → Small (ts.take (k' + 1))) := fun u1 u2 => HS'.out.snoc hlt' u1 u2
          generalize ts[k']?.getD nk = p at *
          obtain ⟨s0, s1⟩ := s0
          clear hc
          by_cases k1 : p.1.size ≤ 1048576
          case neg => go_wp2; go_ret; first | exact ⟨.inl rfl, rfl⟩ | exact ⟨rfl, rfl⟩
          by_cases k2 : n' + p.1.size ≤ 1048576
          case neg => go_wp2; go_ret; first | exact ⟨.inl rfl, rfl⟩ | exact ⟨rfl, rfl⟩
          by_cases k3 : p.2.size ≤ 1048576
          case neg => go_wp2; go_ret; first | exact ⟨.inl rfl, rfl⟩ | exact ⟨rfl, rfl⟩
          by_cases k4 : n' + p.1.size + p.2.size ≤ 1048576
          case neg => go_wp2; go_ret; first | exact ⟨.inl rfl, rfl⟩ | exact ⟨rfl, rfl⟩
          go_wp2
          go_round
          case rel => exact ⟨k' + 1, _, by omega, by go_num, rfl, by omega, by omega, HN.out k1 k3⟩
          case measure => simp [intOf]; omega
        · have hall' : Small ts := by have := HS'.out; rwa [List.take_of_length_le (by omega)] at this
          go_wp2
          go_ret
          first
            | exact ⟨.inr ⟨rfl, h0, HAll.out, t0, hall'⟩, rfl⟩
            | exact ⟨.inr ⟨rfl, HAll.out, t0, hall'⟩, rfl⟩
            | exact ⟨.inr ⟨rfl, HAll.out, hall'⟩, rfl⟩
            | exact ⟨.inr ⟨rfl, HAll.out⟩, rfl⟩

end Go.Proofs.Qxb6608833a
