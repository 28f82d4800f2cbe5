import Derived.Test.Qxb6616928aBytesB
import Derived.Test.Qxb6616928aSplit
import Derived.Test.Qxb6616928aCertG
import Derived.Test.Qxb6616928aLawU
namespace Go.Proofs.Qxb6616928a
open Go.RowKit

theorem below_zero (w : World) (m : Nat) : Below w.heap.size w (w.drewN m) := below_drewN (Below.refl _ _) m

set_option maxHeartbeats 2000000 in
theorem walk3 (a0 : Option Addr) (n0 c0 : Nat) (S0 T0 : Nat → ByteArray) (d : ByteArray) (a2 : Option Addr) (n2 c2 : Nat) (S2 T2 : Nat → ByteArray) (w : World)
    (h0 : PairsAt w a0 n0 S0 T0) (h2 : PairsAt w a2 n2 S2 T2) (m0 : n0 ≤ maxLen) (md : d.size ≤ maxLen) (m2 : n2 ≤ maxLen) :
    Calls Try.prog 3 #[.slice a0 n0 c0, .string d, .slice a2 n2 c2] w (TrueOut w) := by
  have H0 : Hid (PairsAt w a0 n0 S0 T0) := h0
  have H2 : Hid (PairsAt w a2 n2 S2 T2) := h2
  have M : Hid (n0 ≤ maxLen ∧ d.size ≤ maxLen ∧ n2 ≤ maxLen) := ⟨m0, md, m2⟩
  clear h0 h2 m0 md m2
  go_enter Try.func3, Try.ntmps3
  go_wp2_with fail
  refine (bytes10 a0 n0 c0 S0 T0 d a2 n2 c2 S2 T2 w H0.out H2.out M.out.1 M.out.2.1 M.out.2.2).mono ?_
  rintro e w' ⟨rfl, r, rfl, hr⟩
  cases r with
  | false =>
    clear hr
    go_wp2
    go_ret
    exact TrueOut.here _
  | true =>
    obtain ⟨b0, bd, b2⟩ := hr rfl
    clear hr
    go_wp2_with fail
    refine (uris11 _ a0 n0 c0 S0 T0 _ H0.out M.out.1).mono ?_
    rintro e w' ⟨k1, q1, rfl, rfl⟩
    go_wp2_with fail
    all_goals try (go_ret; exact ⟨rfl, below_zero _ _⟩)
    refine (uris11 _ a2 n2 c2 S2 T2 _ (H2.out.below (below_zero _ _)) M.out.2.2).mono ?_
    rintro e w' ⟨k2, q2, rfl, rfl⟩
    go_wp2_with fail
    all_goals try (go_ret; exact ⟨rfl, below_zero _ _⟩)
    have A0 : Hid (Below w.heap.size w (w.drewN (k1 + k2))) := below_zero _ _
    refine (split12 a0 n0 c0 S0 T0 _ (H0.out.below A0.out) (by omega)).mono ?_
    rintro e w1 ⟨x1, y1, x2, y2, rfl, hb1, hs1, ht1⟩
    have A1 : Hid (Below w.heap.size w w1) := A0.out.trans hb1
    have P1 : Hid (StrsAt w1 x1 n0 S0 ∧ StrsAt w1 x2 n0 T0) := ⟨hs1, ht1⟩
    clear hb1 hs1 ht1
    go_wp2_with fail
    refine (cert14 none 0 0 x1 n0 y1 S0 x2 y2 T0 _ P1.out.1 P1.out.2 (by omega)).mono ?_
    rintro e w2 ⟨g2, rfl, hb2, hc2⟩
    have A2 : Hid (Below w.heap.size w w2) := A1.out.trans (hb2.mono A1.out.size)
    have P2 : Hid (CertAt w2 g2 (.slice none 0 0) n0 S0 T0) := hc2
    clear hb2 hc2
    go_wp2_with fail
    refine (role13 g2 _ n0 S0 T0 _ (by omega) P2.out).mono ?_
    rintro e w2' ⟨rfl, pre, ok1, rfl, hr1⟩
    have R1 : Hid (RoleIs n0 S0 T0 pre ok1) := hr1
    clear hr1
    go_wp2_with fail
    refine (role16 d _ bd).mono ?_
    rintro e w3 ⟨rfl, hb3⟩
    have A3 : Hid (Below w.heap.size w w3) := A2.out.trans (hb3.mono A2.out.size)
    clear hb3
    go_wp2_with fail
    refine (join15 a0 n0 c0 S0 T0 schemeB (prefixB ++ d) a2 n2 c2 S2 T2 _ (H0.out.below A3.out) (H2.out.below A3.out) (by omega) (by omega)).mono ?_
    rintro e w4 ⟨aj, cj, rfl, hb4, hp4⟩
    have A4 : Hid (Below w.heap.size w w4) := A3.out.trans (hb4.mono A3.out.size)
    have P4 : Hid (PairsAt w4 aj (n0 + 1 + n2) (joinF S0 n0 schemeB S2) (joinF T0 n0 (prefixB ++ d) T2)) := hp4
    clear hb4 hp4
    go_wp2_with fail
    refine (split12 aj _ cj _ _ _ P4.out (by omega)).mono ?_
    rintro e w5 ⟨x5, y5, x6, y6, rfl, hb5, hs5, ht5⟩
    have A5 : Hid (Below w.heap.size w w5) := A4.out.trans (hb5.mono A4.out.size)
    have P5 : Hid (StrsAt w5 x5 (n0 + 1 + n2) (joinF S0 n0 schemeB S2) ∧ StrsAt w5 x6 (n0 + 1 + n2) (joinF T0 n0 (prefixB ++ d) T2)) := ⟨hs5, ht5⟩
    clear hb5 hs5 ht5
    go_wp2_with fail
    refine (cert14 none 0 0 x5 _ y5 _ x6 y6 _ _ P5.out.1 P5.out.2 (by omega)).mono ?_
    rintro e w6 ⟨g6, rfl, hb6, hc6⟩
    have A6 : Hid (Below w.heap.size w w6) := A5.out.trans (hb6.mono A5.out.size)
    have P6 : Hid (CertAt w6 g6 (.slice none 0 0) (n0 + 1 + n2) (joinF S0 n0 schemeB S2) (joinF T0 n0 (prefixB ++ d) T2)) := hc6
    clear hb6 hc6
    go_wp2_with fail
    refine (role13 g6 _ _ _ _ _ (by omega) P6.out).mono ?_
    rintro e w6' ⟨rfl, got, ok2, rfl, hr2⟩
    obtain ⟨rfl, f1, f2⟩ := role_first R1.out hr2
    clear hr2
    cases ok1 with
    | true =>
      obtain rfl := f1 rfl
      clear f1 f2
      go_wp2
      go_ret
      exact ⟨by simp, A6.out⟩
    | false =>
      obtain rfl := f2 rfl
      clear f1 f2
      go_wp2
      go_ret
      exact ⟨by simp, A6.out⟩

end Go.Proofs.Qxb6616928a
