import Derived.Test.Qxb6616928aBaseU
namespace Go.Proofs.Qxb6616928a
open Go.RowKit

set_option maxHeartbeats 1000000 in
theorem uris11 (q0 : Int) (a0 : Option Addr) (n0 c0 : Nat) (S0 T0 : Nat → ByteArray) (w : World)
    (h0 : PairsAt w a0 n0 S0 T0) (m0 : n0 ≤ maxLen) :
    Calls Try.prog 11 #[.int .i64 q0, .slice a0 n0 c0] w (IntDrew w) := by
  unfold maxLen at m0
  have H0 : Hid (PairsAt w a0 n0 S0 T0) := h0
  clear h0
  go_enter Try.func11, Try.ntmps11
  go_wp2
  go_loopw [0, 5] (fun t i wr => ∃ k : Nat, k ≤ n0 ∧ i = .int .i64 k ∧ (∃ q : Int, t = .int .i64 q) ∧ ∃ m, wr = w.drewN m) (fun _ i _ => n0 - (intOf i).toNat)
  case atStart => exact ⟨0, Nat.zero_le _, rfl, ⟨_, rfl⟩, 0, rfl⟩
  case round =>
    obtain ⟨k, hk, rfl, ⟨q, rfl⟩, m, rfl⟩ := hrel
    by_cases hlt : k < n0
    · obtain ⟨b, o, rfl, hb, hc, hc2⟩ := H0.out k hlt
      have hI : (k : Int) < (n0 : Int) := by omega
      go_wp2
      · go_ret; exact IntDrew.mk _ _ _
      go_quiet (fail)
      go_wp2
      go_roundw
      case rel => exact ⟨k + 1, by omega, by go_num, ⟨_, rfl⟩, _, rfl⟩
      case measure => simp [intOf]; omega
    · go_wp2
      go_ret
      exact IntDrew.mk _ _ _

set_option maxHeartbeats 2000000 in
theorem bytes10 (a0 : Option Addr) (n0 c0 : Nat) (S0 T0 : Nat → ByteArray) (d : ByteArray) (a2 : Option Addr) (n2 c2 : Nat) (S2 T2 : Nat → ByteArray) (w : World)
    (h0 : PairsAt w a0 n0 S0 T0) (h2 : PairsAt w a2 n2 S2 T2) (m0 : n0 ≤ maxLen) (md : d.size ≤ maxLen) (m2 : n2 ≤ maxLen) :
    Calls Try.prog 10 #[.slice a0 n0 c0, .string d, .slice a2 n2 c2] w (BoolIf (n0 ≤ 1048576 ∧ d.size ≤ 1048576 ∧ n2 ≤ 1048576) w) := by
  unfold maxLen at m0 md m2
  have H0 : Hid (PairsAt w a0 n0 S0 T0) := h0
  have H2 : Hid (PairsAt w a2 n2 S2 T2) := h2
  clear h0 h2
  go_enter Try.func10, Try.ntmps10
  go_wp2
  all_goals try (go_ret; exact BoolIf.no _ _)
  go_loop [7, 8] (fun t i => ∃ k : Nat, k ≤ n0 ∧ i = .int .i64 k ∧ ∃ q : Int, t = .int .i64 q) (fun _ i => n0 - (intOf i).toNat)
  case atStart => exact ⟨0, Nat.zero_le _, rfl, _, rfl⟩
  case round =>
    obtain ⟨k, hk, rfl, q, rfl⟩ := hrel
    by_cases hlt : k < n0
    · obtain ⟨b, o, rfl, hb, hc, hc2⟩ := H0.out k hlt
      go_wp2
      all_goals try (go_ret; exact BoolIf.no _ _)
      go_round
      case rel => exact ⟨k + 1, by omega, by go_num, _, rfl⟩
      case measure => simp [intOf]; omega
    · go_wp2
      all_goals try (go_ret; exact BoolIf.no _ _)
      go_loop [7, 9] (fun t i => ∃ k : Nat, k ≤ n2 ∧ i = .int .i64 k ∧ ∃ q : Int, t = .int .i64 q) (fun _ i => n2 - (intOf i).toNat)
      case atStart => exact ⟨0, Nat.zero_le _, rfl, _, rfl⟩
      case round =>
        obtain ⟨k2, hk2, rfl, q2, rfl⟩ := hrel
        by_cases hlt2 : k2 < n2
        · obtain ⟨b, o, rfl, hb, hc, hc2⟩ := H2.out k2 hlt2
          go_wp2
          all_goals try (go_ret; exact BoolIf.no _ _)
          go_round
          case rel => exact ⟨k2 + 1, by omega, by go_num, _, rfl⟩
          case measure => simp [intOf]; omega
        · go_wp2
          go_ret
          exact BoolIf.yes _ (by omega)
end Go.Proofs.Qxb6616928a
