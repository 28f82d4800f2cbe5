import Derived.Test.Qxb6616928aBaseU
namespace Go.Proofs.Qxb6616928a
open Go.RowKit

set_option maxHeartbeats 2000000 in
theorem bytes25 (a0 : Option Addr) (n0 c0 : Nat) (S0 : Nat → ByteArray) (d : ByteArray) (a2 : Option Addr) (n2 c2 : Nat) (S2 T2 : Nat → ByteArray) (r : ByteArray) (w : World)
    (h0 : StrsAt w a0 n0 S0) (h2 : PairsAt w a2 n2 S2 T2) (m0 : n0 ≤ maxLen) (md : d.size ≤ maxLen) (m2 : n2 ≤ maxLen) (mr : r.size ≤ maxLen) :
    Calls Try.prog 25 #[.slice a0 n0 c0, .string d, .slice a2 n2 c2, .string r] w (BoolIf (n0 ≤ 1048576 ∧ d.size ≤ 1048576 ∧ n2 ≤ 1048576 ∧ r.size ≤ 1048576) w) := by
  unfold maxLen at m0 md m2 mr
  have H0 : Hid (StrsAt w a0 n0 S0) := h0
  have H2 : Hid (PairsAt w a2 n2 S2 T2) := h2
  clear h0 h2
  go_enter Try.func25, Try.ntmps25
  go_wp2
  all_goals try (go_ret; exact BoolIf.no _ _)
  go_loop [9, 10] (fun t i => ∃ k : Nat, k ≤ n0 ∧ i = .int .i64 k ∧ ∃ q : Int, t = .int .i64 q) (fun _ i => n0 - (intOf i).toNat)
  case atStart => exact ⟨0, Nat.zero_le _, rfl, _, rfl⟩
  case round =>
    obtain ⟨k, hk, rfl, q, rfl⟩ := hrel
    by_cases hlt : k < n0
    · obtain ⟨b, o, rfl, hb, hc⟩ := H0.out k hlt
      go_wp2
      all_goals try (go_ret; exact BoolIf.no _ _)
      go_round
      case rel => exact ⟨k + 1, by omega, by go_num, _, rfl⟩
      case measure => simp [intOf]; omega
    · go_wp2
      all_goals try (go_ret; exact BoolIf.no _ _)
      go_loop [9, 11] (fun t i => ∃ k : Nat, k ≤ n2 ∧ i = .int .i64 k ∧ ∃ q : Int, t = .int .i64 q) (fun _ i => n2 - (intOf i).toNat)
      case atStart => exact ⟨0, Nat.zero_le _, rfl, _, rfl⟩
      case round =>
        obtain ⟨k2, hk2, rfl, q2, rfl⟩ := hrel
        by_cases hlt2 : k2 < n2
        · obtain ⟨b, o, rfl, hb, hc, hc2⟩ := H2.out k2 hlt2
          go_wp2
          all_goals try (go_ret; exact BoolIf.no _ _)
          go_round
          case rel => exact ⟨k2 + 1, by omega, by go_num, _, rfl⟩
          case measure => simp [intOf]; omega
        · go_wp2
          all_goals try (go_ret; exact BoolIf.no _ _)
          go_ret
          exact BoolIf.yes _ (by omega)
end Go.Proofs.Qxb6616928a
