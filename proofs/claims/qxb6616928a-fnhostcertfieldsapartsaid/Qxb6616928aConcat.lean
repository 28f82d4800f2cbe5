import Derived.Test.Qxb6616928aJoinU
namespace Go.Proofs.Qxb6616928a
open Go.RowKit

def concatF (S0 : Nat → ByteArray) (n0 : Nat) (S2 : Nat → ByteArray) (i : Nat) : ByteArray := if i < n0 then S0 i else S2 (i - n0)

set_option maxHeartbeats 2000000 in
theorem concat19 (a0 : Option Addr) (n0 c0 : Nat) (S0 T0 : Nat → ByteArray) (a2 : Option Addr) (n2 c2 : Nat) (S2 T2 : Nat → ByteArray) (w : World)
    (h0 : PairsAt w a0 n0 S0 T0) (h2 : PairsAt w a2 n2 S2 T2) (m0 : n0 ≤ 1048576) (m2 : n2 ≤ 1048576) :
    Calls Try.prog 19 #[.slice a0 n0 c0, .slice a2 n2 c2] w (PairsOut w (n0 + n2) (concatF S0 n0 S2) (concatF T0 n0 T2)) := by
  have H0 : Hid (PairsAt w a0 n0 S0 T0) := h0
  have H2 : Hid (PairsAt w a2 n2 S2 T2) := h2
  obtain ⟨J, hJ⟩ : ∃ J, J = concatF S0 n0 S2 := ⟨_, rfl⟩
  obtain ⟨L, hL⟩ : ∃ L, L = concatF T0 n0 T2 := ⟨_, rfl⟩
  rw [← hJ, ← hL]
  have J0 : Hid ((∀ i, i < n0 → J i = S0 i) ∧ (∀ i, i < n0 → L i = T0 i)) := ⟨fun i hi => by rw [hJ]; simp [concatF, hi], fun i hi => by rw [hL]; simp [concatF, hi]⟩
  have J2 : Hid ((∀ i, J (n0 + i) = S2 i) ∧ (∀ i, L (n0 + i) = T2 i)) := ⟨fun i => by rw [hJ]; unfold concatF; rw [if_neg (by omega)]; congr 1; omega, fun i => by rw [hL]; unfold concatF; rw [if_neg (by omega)]; congr 1; omega⟩
  clear h0 h2 hJ hL
  obtain ⟨i0, hi, hz0, hz1, hz2⟩ := info_parts Try.info34
  have HI : Hid (Try.prog.info? 34 = some i0 ∧ i0.size = 2) := ⟨hi, hz1⟩
  go_enter Try.func19, Try.ntmps19
  go_wp2_with (at_make; refine wpList_make_own _ rfl _ _ 22 rfl w.heap.size 34 i0 (.agg #[.string ByteArray.empty, .string ByteArray.empty]) 2 Try.underlying22 hi hz0 hz1 _ _ _ (n0 + n2) rfl rfl ?c0 ?c1 ?c2 ?c3 ?_)
  case c0 => omega
  case c1 => rw [hz2]; omega
  case c2 => unfold maxLen; omega
  case c3 => exact Nat.le_refl _
  intro w1 hown hgrow
  have hb1 : Below w.heap.size w w1 := (Below.refl _ _).grown hgrow (Nat.le_refl _) (by simp)
  have REL : JRelU w w.heap.size (n0 + n2) J L 0 w1 := ⟨_, hown, fun i hi => by omega, hb1⟩
  clear hown hgrow hb1 hi hz0 hz1 hz2
  go_wp2
  go_loopw [5, 6] (fun v i wr => ∃ k : Nat, k ≤ n0 ∧ i = .int .i64 k ∧ v = .slice (some ⟨w.heap.size, 0, none⟩) k (n0 + n2) ∧ JRelU w w.heap.size (n0 + n2) J L k wr) (fun _ i _ => n0 - (intOf i).toNat)
  case atStart => exact ⟨0, Nat.zero_le _, rfl, rfl, REL⟩
  case round =>
    obtain ⟨k, hk, rfl, rfl, R⟩ := hrel
    clear REL
    by_cases hlt : k < n0
    · obtain ⟨xs, hown, hx, hb⟩ := R
      obtain ⟨b, o, rfl, hbl, hc, hd⟩ := H0.out k hlt
      have hc' : wr.cell? ⟨b, o + k * 2, none⟩ = some (.string (S0 k)) := by rw [hb.cell (p := ⟨b, o + k * 2, none⟩) hbl]; exact hc
      have hd' : wr.cell? ⟨b, o + k * 2 + 1, none⟩ = some (.string (T0 k)) := by rw [hb.cell (p := ⟨b, o + k * 2 + 1, none⟩) hbl]; exact hd
      clear hc hd
      go_wp2_with (at_builtin; refine wpList_append_fits _ rfl (.tmp 20) (.tmp 25) 22 rfl w.heap.size 34 i0 2 Try.underlying22 HI.out.1 HI.out.2 w.heap.size k (n0 + n2) xs rfl (hown.alloc _) ⟨wr.heap.size, 0, none⟩ 1 1 [.string (S0 k), .string (T0 k)] rfl rfl ?d1 ?d2 ?d3 ?_)
      case d1 => exact two_new
      case d2 => exact two_one
      case d3 => omega
      intro w2 hown2 hg2
      have R2 := JRelU.step (Nat.le_refl _) hown hx hb (J0.out.1 k hlt) (J0.out.2 k hlt) hown2 hg2
      clear hown hx hb hown2 hg2 hc' hd'
      go_wp2
      go_roundw
      case rel => exact ⟨k + 1, by omega, by go_num, rfl, R2⟩
      case measure => simp [intOf]; omega
    · have hkn : k = n0 := by omega
      subst hkn
      go_wp2
      go_loopw [5, 7] (fun v i wr => ∃ k' : Nat, k' ≤ n2 ∧ i = .int .i64 k' ∧ v = .slice (some ⟨w.heap.size, 0, none⟩) (k + k') (k + n2) ∧ JRelU w w.heap.size (k + n2) J L (k + k') wr) (fun _ i _ => n2 - (intOf i).toNat)
      case atStart => exact ⟨0, Nat.zero_le _, rfl, rfl, R⟩
      case round =>
        obtain ⟨k2, hk2, rfl, rfl, R'⟩ := hrel
        obtain ⟨xs2, hown, hx, hb⟩ := R'
        clear R
        by_cases hlt2 : k2 < n2
        · obtain ⟨b, o, rfl, hbl, hc, hd⟩ := H2.out k2 hlt2
          have hc' : wr.cell? ⟨b, o + k2 * 2, none⟩ = some (.string (S2 k2)) := by rw [hb.cell (p := ⟨b, o + k2 * 2, none⟩) hbl]; exact hc
          have hd' : wr.cell? ⟨b, o + k2 * 2 + 1, none⟩ = some (.string (T2 k2)) := by rw [hb.cell (p := ⟨b, o + k2 * 2 + 1, none⟩) hbl]; exact hd
          clear hc hd
          go_wp2_with (at_builtin; refine wpList_append_fits _ rfl (.tmp 33) (.tmp 38) 22 rfl w.heap.size 34 i0 2 Try.underlying22 HI.out.1 HI.out.2 w.heap.size (k + k2) (k + n2) xs2 rfl (hown.alloc _) ⟨wr.heap.size, 0, none⟩ 1 1 [.string (S2 k2), .string (T2 k2)] rfl rfl ?e1 ?e2 ?e3 ?_)
          case e1 => exact two_new
          case e2 => exact two_one
          case e3 => omega
          intro w3 hown3 hg3
          have R3 := JRelU.step (Nat.le_refl _) hown hx hb (J2.out.1 k2) (J2.out.2 k2) hown3 hg3
          clear hown hx hb hown3 hg3 hc' hd'
          go_wp2
          go_roundw
          case rel => exact ⟨k2 + 1, by omega, by go_num, rfl, R3⟩
          case measure => simp [intOf]; omega
        · have hkn2 : k2 = n2 := by omega
          subst hkn2
          have FIN : Hid (PairsAt wr (some ⟨w.heap.size, 0, none⟩) (k + k2) J L ∧ Below w.heap.size w wr) := ⟨pairsAt_of_own hown hx, hb⟩
          clear hown hx hb
          go_wp2
          go_ret
          exact ⟨_, _, rfl, FIN.out.2, FIN.out.1⟩
end Go.Proofs.Qxb6616928a
