import Derived.Test.Qxb6616928aBytesA
import Derived.Test.Qxb6616928aClone
import Derived.Test.Qxb6616928aJoin
import Derived.Test.Qxb6616928aCertN
namespace Go.Proofs.Qxb6616928a
open Go.RowKit

set_option maxHeartbeats 1000000 in
theorem walk5 (a0 : Option Addr) (n0 c0 : Nat) (S0 : Nat → ByteArray) (d : ByteArray) (a2 : Option Addr) (n2 c2 : Nat) (S2 : Nat → ByteArray) (w : World)
    (h0 : StrsAt w a0 n0 S0) (h2 : StrsAt w a2 n2 S2) (m0 : n0 ≤ maxLen) (md : d.size ≤ maxLen) (m2 : n2 ≤ maxLen) :
    Calls Try.prog 5 #[.slice a0 n0 c0, .string d, .slice a2 n2 c2] w (TrueOut w) := by
  have H0 : Hid (StrsAt w a0 n0 S0) := h0
  have H2 : Hid (StrsAt w a2 n2 S2) := h2
  have M : Hid (n0 ≤ maxLen ∧ d.size ≤ maxLen ∧ n2 ≤ maxLen) := ⟨m0, md, m2⟩
  clear h0 h2 m0 md m2
  go_enter Try.func5, Try.ntmps5
  go_wp2_with fail
  refine (bytes20 a0 n0 c0 S0 d a2 n2 c2 S2 w H0.out H2.out M.out.1 M.out.2.1 M.out.2.2).mono ?_
  rintro e w' ⟨rfl, r, rfl, hr⟩
  cases r with
  | false =>
    clear hr
    go_wp2
    go_ret
    exact TrueOut.here _
  | true =>
    obtain ⟨b0, bd, b2⟩ := hr rfl
    clear hr
    go_wp2_with fail
    refine (names21 _ a0 n0 c0 S0 _ H0.out M.out.1).mono ?_
    rintro e w' ⟨rfl, q1, rfl⟩
    go_wp2_with fail
    all_goals try (go_ret; exact TrueOut.here _)
    refine (names21 _ a2 n2 c2 S2 _ H2.out M.out.2.2).mono ?_
    rintro e w' ⟨rfl, q2, rfl⟩
    go_wp2_with fail
    all_goals try (go_ret; exact TrueOut.here _)
    refine (clone22 a0 n0 c0 S0 _ H0.out b0).mono ?_
    rintro e w1 ⟨ac, cc, rfl, hb1, hS1⟩
    have HB1 : Hid (Below w.heap.size w w1) := hb1
    have HS1 : Hid (StrsAt w1 ac n0 S0) := hS1
    clear hb1 hS1
    go_wp2_with fail
    refine (cert14nil ac n0 cc S0 S0 _).mono ?_
    rintro e w2 ⟨g, rfl, hb2, hC2⟩
    have HB2 : Hid (Below w1.heap.size w1 w2) := hb2
    have HC2 : Hid (CertAt w2 g (.slice ac n0 cc) 0 S0 S0) := hC2
    clear hb2 hC2
    go_wp2_with fail
    refine (node23 g ac n0 cc S0 _ (HS1.out.below HB2.out) HC2.out.2.1).mono ?_
    rintro e _ ⟨rfl, rfl⟩
    go_wp2_with fail
    have HB12 : Hid (Below w.heap.size w w2) := HB1.out.trans (HB2.out.mono HB1.out.size)
    refine (join24 ac n0 cc S0 d a2 n2 c2 S2 _ (HS1.out.below HB2.out) (H2.out.below HB12.out) b0 b2).mono ?_
    rintro e w3 ⟨aj, cj, rfl, hb3, hS3⟩
    have HB3 : Hid (Below w2.heap.size w2 w3) := hb3
    have HS3 : Hid (StrsAt w3 aj (n0 + 1 + n2) (joinF S0 n0 d S2)) := hS3
    clear hb3 hS3
    go_wp2_with fail
    refine (cert14nil aj _ cj S0 S0 _).mono ?_
    rintro e w4 ⟨g4, rfl, hb4, hC4⟩
    have HB4 : Hid (Below w3.heap.size w3 w4) := hb4
    have HC4 : Hid (CertAt w4 g4 (.slice aj (n0 + 1 + n2) cj) 0 S0 S0) := hC4
    clear hb4 hC4
    go_wp2_with fail
    refine (node23 g4 aj _ cj (joinF S0 n0 d S2) _ (HS3.out.below HB4.out) HC4.out.2.1).mono ?_
    rintro e _ ⟨rfl, rfl⟩
    have HB14 : Hid (Below w.heap.size w w4) := (HB12.out.trans (HB3.out.mono HB12.out.size)).trans (HB4.out.mono (Nat.le_trans HB12.out.size HB3.out.size))
    by_cases hn : n0 = 0
    · have e1 : firstOf n0 S0 = ByteArray.empty := by simp [firstOf, hn]
      have e2 : firstOf (n0 + 1 + n2) (joinF S0 n0 d S2) = d := by unfold firstOf joinF; rw [if_neg (by omega), if_neg (by omega), if_pos (by omega)]
      rw [e1, e2]
      have hne : ((n0 : Int) == 0) = true := by simp; omega
      clear e1 e2 hn
      go_wp2
      go_ret
      exact ⟨rfl, HB14.out⟩
    · have e2 : firstOf (n0 + 1 + n2) (joinF S0 n0 d S2) = firstOf n0 S0 := by unfold firstOf joinF; rw [if_neg (by omega), if_pos (by omega), if_neg hn]
      rw [e2]
      have hne : ((n0 : Int) == 0) = false := by simp; omega
      clear e2 hn
      go_wp2
      go_ret
      exact ⟨by simp, HB14.out⟩

end Go.Proofs.Qxb6616928a
