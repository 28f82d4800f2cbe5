import Derived.Test.Qxb6616928aBytesA
import Derived.Test.Qxb6616928aBytesB
import Derived.Test.Qxb6616928aBytesD
import Derived.Test.Qxb6616928aSplit
import Derived.Test.Qxb6616928aCertG
import Derived.Test.Qxb6616928aLawI
namespace Go.Proofs.Qxb6616928a
open Go.RowKit

theorem below_drawn (w : World) (m : Nat) : Below w.heap.size w (w.drewN m) := below_drewN (Below.refl _ _) m
theorem StrsAt.none_ (w : World) (a : Option Addr) (S : Nat → ByteArray) : StrsAt w a 0 S := fun i hi => by omega

/-- THE PLAIN LAW: two readings of the URIs u and a role URI behind them. -/
theorem role_end {n : Nat} {S T E F : Nat → ByteArray} {r role alone : ByteArray} {ok okA : Bool} (h1 : RoleIs (n + 1 + 0) (joinF S n schemeB E) (joinF T n (prefixB ++ r) F) role ok)
    (h2 : RoleIs (n + 1 + 0) (joinF S n schemeB E) (joinF T n (prefixB ++ r) F) alone okA) : ok = true ∧ okA = true ∧ alone = role ∧ (n = 0 → role = r) := by
  obtain ⟨x, okX, hX⟩ := role_total n S T
  obtain ⟨e1, e2, e3⟩ := role_first hX h1
  obtain ⟨f1, _, _⟩ := role_first hX h2
  refine ⟨e1, f1, ((role_unique h1 h2).2 e1).symm, fun hn => ?_⟩
  rcases hX with ⟨_, i, hi, _⟩ | ⟨hf, _⟩
  · omega
  · exact e3 hf

set_option maxHeartbeats 2000000 in
theorem walk6 (a0 : Option Addr) (n0 c0 : Nat) (S0 : Nat → ByteArray) (d : ByteArray) (a2 : Option Addr) (n2 c2 : Nat) (S2 T2 : Nat → ByteArray) (r : ByteArray) (w : World)
    (h0 : StrsAt w a0 n0 S0) (h2 : PairsAt w a2 n2 S2 T2) (m0 : n0 ≤ maxLen) (md : d.size ≤ maxLen) (m2 : n2 ≤ maxLen) (mr : r.size ≤ maxLen) :
    Calls Try.prog 6 #[.slice a0 n0 c0, .string d, .slice a2 n2 c2, .string r] w (TrueOut w) := by
  have H0 : Hid (StrsAt w a0 n0 S0) := h0
  have H2 : Hid (PairsAt w a2 n2 S2 T2) := h2
  have M : Hid (n0 ≤ maxLen ∧ d.size ≤ maxLen ∧ n2 ≤ maxLen ∧ r.size ≤ maxLen) := ⟨m0, md, m2, mr⟩
  clear h0 h2 m0 md m2 mr
  go_enter Try.func6, Try.ntmps6
  go_wp2_with fail
  refine (bytes25 a0 n0 c0 S0 d a2 n2 c2 S2 T2 r w H0.out H2.out M.out.1 M.out.2.1 M.out.2.2.1 M.out.2.2.2).mono ?_
  rintro e w' ⟨rfl, b, rfl, hr⟩
  cases b with
  | false =>
    clear hr
    go_wp2
    go_ret
    exact TrueOut.here _
  | true =>
    obtain ⟨b0, bd, b2, br⟩ := hr rfl
    clear hr
    go_wp2_with fail
    refine (names21 _ a0 n0 c0 S0 _ H0.out M.out.1).mono ?_
    rintro e w' ⟨rfl, q1, rfl⟩
    go_wp2_with fail
    all_goals try (go_ret; exact TrueOut.here _)
    refine (uris11 _ a2 n2 c2 S2 T2 _ H2.out M.out.2.2.1).mono ?_
    rintro e w' ⟨k2, q2, rfl, rfl⟩
    go_wp2_with fail
    all_goals try (go_ret; exact ⟨rfl, below_drawn _ _⟩)
    refine (join24 a0 n0 c0 S0 d none 0 0 S0 _ (H0.out.below (below_drawn _ _)) (StrsAt.none_ _ _ _) b0 (by omega)).mono ?_
    rintro e w1 ⟨an, cn, rfl, hb1, hs1⟩
    have A1 : Hid (Below w.heap.size w w1) := (below_drawn w _).trans hb1
    have N1 : Hid (StrsAt w1 an (n0 + 1 + 0) (joinF S0 n0 d S0)) := hs1
    clear hb1 hs1
    go_wp2_with fail
    refine (role16 r _ br).mono ?_
    rintro e w2 ⟨rfl, hb2⟩
    have A2 : Hid (Below w.heap.size w w2) := A1.out.trans (hb2.mono A1.out.size)
    have N2 : Hid (StrsAt w2 an (n0 + 1 + 0) (joinF S0 n0 d S0)) := N1.out.below hb2
    clear hb2 A1 N1
    go_wp2_with fail
    refine (join15 a2 n2 c2 S2 T2 schemeB (prefixB ++ r) none 0 0 S2 T2 _ (H2.out.below A2.out) (PairsAt.nil _ _ _ _) (by omega) (by omega)).mono ?_
    rintro e w3 ⟨aj, cj, rfl, hb3, hp3⟩
    have A3 : Hid (Below w.heap.size w w3) := A2.out.trans (hb3.mono A2.out.size)
    have N3 : Hid (StrsAt w3 an (n0 + 1 + 0) (joinF S0 n0 d S0)) := N2.out.below hb3
    have P3 : Hid (PairsAt w3 aj (n2 + 1 + 0) (joinF S2 n2 schemeB S2) (joinF T2 n2 (prefixB ++ r) T2)) := hp3
    clear hb3 hp3 A2 N2
    go_wp2_with fail
    refine (split12 aj _ cj _ _ _ P3.out (by omega)).mono ?_
    rintro e w4 ⟨x1, y1, x2, y2, rfl, hb4, hs4, ht4⟩
    have A4 : Hid (Below w.heap.size w w4) := A3.out.trans (hb4.mono A3.out.size)
    have N4 : Hid (StrsAt w4 an (n0 + 1 + 0) (joinF S0 n0 d S0)) := N3.out.below hb4
    have P4 : Hid (StrsAt w4 x1 (n2 + 1 + 0) (joinF S2 n2 schemeB S2) ∧ StrsAt w4 x2 (n2 + 1 + 0) (joinF T2 n2 (prefixB ++ r) T2)) := ⟨hs4, ht4⟩
    clear hb4 hs4 ht4 A3 N3 P3
    go_wp2_with fail
    refine (cert14 an _ cn x1 _ y1 _ x2 y2 _ _ P4.out.1 P4.out.2 (by omega)).mono ?_
    rintro e w5 ⟨g5, rfl, hb5, hc5⟩
    have A5 : Hid (Below w.heap.size w w5) := A4.out.trans (hb5.mono A4.out.size)
    have N5 : Hid (StrsAt w5 an (n0 + 1 + 0) (joinF S0 n0 d S0)) := N4.out.below hb5
    have P5 : Hid (StrsAt w5 x1 (n2 + 1 + 0) (joinF S2 n2 schemeB S2) ∧ StrsAt w5 x2 (n2 + 1 + 0) (joinF T2 n2 (prefixB ++ r) T2)) := ⟨P4.out.1.below hb5, P4.out.2.below hb5⟩
    have C5 : Hid (CertAt w5 g5 (.slice an (n0 + 1 + 0) cn) (n2 + 1 + 0) (joinF S2 n2 schemeB S2) (joinF T2 n2 (prefixB ++ r) T2)) := hc5
    clear hb5 hc5 A4 N4 P4
    go_wp2_with fail
    refine (node23 g5 an _ cn _ _ N5.out C5.out.2.1).mono ?_
    rintro e w5' ⟨rfl, rfl⟩
    go_wp2_with fail
    refine (role13 g5 _ _ _ _ _ (by omega) C5.out).mono ?_
    rintro e w5' ⟨rfl, role, ok, rfl, hr1⟩
    have R1 : Hid (RoleIs (n2 + 1 + 0) (joinF S2 n2 schemeB S2) (joinF T2 n2 (prefixB ++ r) T2) role ok) := hr1
    clear hr1 C5
    go_wp2_with fail
    refine (cert14nil an _ cn S0 S0 _).mono ?_
    rintro e w6 ⟨g6, rfl, hb6, hc6⟩
    have A6 : Hid (Below w.heap.size w w6) := A5.out.trans (hb6.mono A5.out.size)
    have N6 : Hid (StrsAt w6 an (n0 + 1 + 0) (joinF S0 n0 d S0)) := N5.out.below hb6
    have P6 : Hid (StrsAt w6 x1 (n2 + 1 + 0) (joinF S2 n2 schemeB S2) ∧ StrsAt w6 x2 (n2 + 1 + 0) (joinF T2 n2 (prefixB ++ r) T2)) := ⟨P5.out.1.below hb6, P5.out.2.below hb6⟩
    have C6 : Hid (CertAt w6 g6 (.slice an (n0 + 1 + 0) cn) 0 S0 S0) := hc6
    clear hb6 hc6 A5 N5 P5
    go_wp2_with fail
    refine (node23 g6 an _ cn _ _ N6.out C6.out.2.1).mono ?_
    rintro e w6' ⟨rfl, rfl⟩
    go_wp2_with fail
    refine (cert14 none 0 0 x1 _ y1 _ x2 y2 _ _ P6.out.1 P6.out.2 (by omega)).mono ?_
    rintro e w7 ⟨g7, rfl, hb7, hc7⟩
    have A7 : Hid (Below w.heap.size w w7) := A6.out.trans (hb7.mono A6.out.size)
    have C7 : Hid (CertAt w7 g7 (.slice none 0 0) (n2 + 1 + 0) (joinF S2 n2 schemeB S2) (joinF T2 n2 (prefixB ++ r) T2)) := hc7
    clear hb7 hc7 A6 N6 P6 C6
    go_wp2_with fail
    refine (role13 g7 _ _ _ _ _ (by omega) C7.out).mono ?_
    rintro e w7' ⟨rfl, alone, okA, rfl, hr2⟩
    obtain ⟨rfl, rfl, rfl, f0⟩ := role_end R1.out hr2
    have F0 : Hid (n2 = 0 → alone = r) := f0
    have D0 : Hid (n0 = 0 → firstOf (n0 + 1 + 0) (joinF S0 n0 d S0) = d) := fun h => by unfold firstOf joinF; rw [if_neg (by omega), if_neg (by omega), if_pos h.symm]
    obtain ⟨nm, hnm⟩ : ∃ nm, nm = firstOf (n0 + 1 + 0) (joinF S0 n0 d S0) := ⟨_, rfl⟩
    rw [← hnm]
    have D1 : Hid (n0 = 0 → nm = d) := fun h => by rw [hnm]; exact D0.out h
    clear hr2 f0 R1 C7 hnm D0
    by_cases e0 : n0 = 0
    · obtain rfl := D1.out e0
      have hn0 : ((n0 : Int) == 0) = true := by simp; omega
      by_cases e2 : n2 = 0
      · obtain rfl := F0.out e2
        have hn2 : ((n2 : Int) == 0) = true := by simp; omega
        clear e0 e2 F0 D1
        go_wp2
        go_ret
        exact ⟨rfl, A7.out⟩
      · have hn2 : ((n2 : Int) == 0) = false := by simp; omega
        clear e0 e2 F0 D1
        go_wp2
        go_ret
        exact ⟨rfl, A7.out⟩
    · have hn0 : ((n0 : Int) == 0) = false := by simp; omega
      by_cases e2 : n2 = 0
      · obtain rfl := F0.out e2
        have hn2 : ((n2 : Int) == 0) = true := by simp; omega
        clear e0 e2 F0 D1
        go_wp2
        go_ret
        exact ⟨rfl, A7.out⟩
      · have hn2 : ((n2 : Int) == 0) = false := by simp; omega
        clear e0 e2 F0 D1
        go_wp2
        go_ret
        exact ⟨rfl, A7.out⟩

end Go.Proofs.Qxb6616928a
