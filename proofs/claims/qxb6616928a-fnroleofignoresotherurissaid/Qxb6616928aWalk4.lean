import Derived.Test.Qxb6616928aBytesB
import Derived.Test.Qxb6616928aBytesC
import Derived.Test.Qxb6616928aSplit
import Derived.Test.Qxb6616928aCertG
import Derived.Test.Qxb6616928aHas18
import Derived.Test.Qxb6616928aLawI
namespace Go.Proofs.Qxb6616928a
open Go.RowKit

/-- Nothing that was there in w has turned, and the law's own copy of its struct argument lies behind it. -/
def BoxAt (w : World) (s t : ByteArray) (w1 : World) : Prop :=
  Below w.heap.size w w1 ∧ w.heap.size < w1.heap.size ∧ w1.cell? ⟨w.heap.size, 0, none⟩ = some (.string s) ∧ w1.cell? ⟨w.heap.size, 1, none⟩ = some (.string t)

theorem BoxAt.start {w w1 : World} {s t : ByteArray} (h : Below (w.alloc (.cells #[.string s, .string t] 34)).heap.size (w.alloc (.cells #[.string s, .string t] 34)) w1) : BoxAt w s t w1 := by
  have hz := h.size
  simp only [World.size_alloc] at hz h
  refine ⟨((Below.refl _ _).alloc (Nat.le_refl _) _).trans (h.mono (Nat.le_succ _)), by omega, ?_, ?_⟩
  · rw [h.cell (p := ⟨w.heap.size, 0, none⟩) (Nat.lt_succ_self _)]; simp
  · rw [h.cell (p := ⟨w.heap.size, 1, none⟩) (Nat.lt_succ_self _)]; simp

theorem BoxAt.next {w w1 w2 : World} {s t : ByteArray} (h : BoxAt w s t w1) (hb : Below w1.heap.size w1 w2) : BoxAt w s t w2 :=
  ⟨h.1.trans (hb.mono h.1.size), Nat.lt_of_lt_of_le h.2.1 hb.size, by rw [hb.cell (p := ⟨w.heap.size, 0, none⟩) h.2.1]; exact h.2.2.1, by rw [hb.cell (p := ⟨w.heap.size, 1, none⟩) h.2.1]; exact h.2.2.2⟩

theorem below_draws (w : World) (m : Nat) : Below w.heap.size w (w.drewN m) := below_drewN (Below.refl _ _) m

set_option maxHeartbeats 2000000 in
theorem walk4 (a0 : Option Addr) (n0 c0 : Nat) (S0 T0 : Nat → ByteArray) (s t : ByteArray) (a2 : Option Addr) (n2 c2 : Nat) (S2 T2 : Nat → ByteArray) (d : ByteArray) (w : World)
    (h0 : PairsAt w a0 n0 S0 T0) (h2 : PairsAt w a2 n2 S2 T2) (m0 : n0 ≤ maxLen) (m2 : n2 ≤ maxLen) (md : d.size ≤ maxLen) :
    Calls Try.prog 4 #[.slice a0 n0 c0, .agg #[.string s, .string t], .slice a2 n2 c2, .string d] w (TrueOut w) := by
  have H0 : Hid (PairsAt w a0 n0 S0 T0) := h0
  have H2 : Hid (PairsAt w a2 n2 S2 T2) := h2
  have M : Hid (n0 ≤ maxLen ∧ n2 ≤ maxLen ∧ d.size ≤ maxLen) := ⟨m0, m2, md⟩
  have W0 : Hid (Below w.heap.size w (w.alloc (.cells #[.string s, .string t] 34))) := (Below.refl _ _).alloc (Nat.le_refl _) _
  clear h0 h2 m0 md m2
  go_enter Try.func4, Try.ntmps4
  go_wp2_with fail
  refine (bytes17 a0 n0 c0 S0 T0 s t a2 n2 c2 S2 T2 d _ (H0.out.below W0.out) (H2.out.below W0.out) M.out.1 M.out.2.1 M.out.2.2).mono ?_
  rintro e w1 ⟨hb, r, rfl, hr⟩
  have B1 : Hid (BoxAt w s t w1) := BoxAt.start hb
  have c10 : w1.cell? ⟨w.heap.size, 0, none⟩ = some (.string s) := B1.out.2.2.1
  have c11 : w1.cell? ⟨w.heap.size, 1, none⟩ = some (.string t) := B1.out.2.2.2
  clear hb
  cases r with
  | false =>
    clear hr
    go_wp2
    go_ret
    exact ⟨rfl, B1.out.1⟩
  | true =>
    obtain ⟨b0, bd, b2⟩ := hr rfl
    clear hr
    go_wp2_with fail
    refine (uris11 _ a0 n0 c0 S0 T0 _ (H0.out.below B1.out.1) M.out.1).mono ?_
    rintro e w' ⟨k1, q1, rfl, rfl⟩
    go_wp2_with fail
    all_goals try (go_ret; exact ⟨rfl, (B1.out.next (below_draws _ _)).1⟩)
    refine (uris11 _ a2 n2 c2 S2 T2 _ ((H2.out.below B1.out.1).below (below_draws _ _)) M.out.2.1).mono ?_
    rintro e w' ⟨k2, q2, rfl, rfl⟩
    cases hq0 : (s.toList == schemeB.toList) with
    | false =>
      have HN : Hid (isRole s t = false) := by unfold Hid isRole; rw [hq0]; simp
      have hq : (s.toList == [100, 111, 107, 105, 109, 97, 115, 105, 97]) = false := by rw [← scheme_list]; exact hq0
      clear hq0
      go_wp2_with fail
      all_goals try (go_ret; exact ⟨rfl, (B1.out.next (below_draws _ _)).1⟩)
      refine (concat19 a0 n0 c0 S0 T0 a2 n2 c2 S2 T2 _ (H0.out.below (B1.out.next (below_draws _ _)).1) (H2.out.below (B1.out.next (below_draws _ _)).1) b0 b2).mono ?_
      rintro e w2 ⟨ac, cc, rfl, hb2, hp2⟩
      have B2 : Hid (BoxAt w s t w2) := (B1.out.next (below_draws _ _)).next hb2
      have P2 : Hid (PairsAt w2 ac (n0 + n2) (concatF S0 n0 S2) (concatF T0 n0 T2)) := hp2
      clear hb2 hp2 c10 c11 B1
      go_wp2_with fail
      refine (split12 ac _ cc _ _ _ P2.out (by omega)).mono ?_
      rintro e w3 ⟨x1, y1, x2, y2, rfl, hb3, hs3, ht3⟩
      have B3 : Hid (BoxAt w s t w3) := B2.out.next hb3
      have Q3 : Hid (PairsAt w3 ac (n0 + n2) (concatF S0 n0 S2) (concatF T0 n0 T2)) := P2.out.below hb3
      have P3 : Hid (StrsAt w3 x1 (n0 + n2) (concatF S0 n0 S2) ∧ StrsAt w3 x2 (n0 + n2) (concatF T0 n0 T2)) := ⟨hs3, ht3⟩
      clear hb3 hs3 ht3 B2 P2
      go_wp2_with fail
      refine (cert14 none 0 0 x1 _ y1 _ x2 y2 _ _ P3.out.1 P3.out.2 (by omega)).mono ?_
      rintro e w4 ⟨g4, rfl, hb4, hc4⟩
      have B4 : Hid (BoxAt w s t w4) := B3.out.next hb4
      have Q4 : Hid (PairsAt w4 ac (n0 + n2) (concatF S0 n0 S2) (concatF T0 n0 T2)) := Q3.out.below hb4
      have P4 : Hid (CertAt w4 g4 (.slice none 0 0) (n0 + n2) (concatF S0 n0 S2) (concatF T0 n0 T2)) := hc4
      clear hb4 hc4 B3 Q3 P3
      go_wp2_with fail
      refine (role13 g4 _ _ _ _ _ (by omega) P4.out).mono ?_
      rintro e w4' ⟨rfl, plain, okP, rfl, hrP⟩
      have RP : Hid (RoleIs (n0 + n2) (concatF S0 n0 S2) (concatF T0 n0 T2) plain okP) := hrP
      clear hrP P4
      go_wp2_with fail
      refine (role16 d _ bd).mono ?_
      rintro e w5 ⟨rfl, hb5⟩
      have B5 : Hid (BoxAt w s t w5) := B4.out.next hb5
      have Q5 : Hid (PairsAt w5 ac (n0 + n2) (concatF S0 n0 S2) (concatF T0 n0 T2)) := Q4.out.below hb5
      clear hb5 B4 Q4
      go_wp2_with fail
      refine (join15 ac _ cc _ _ schemeB (prefixB ++ d) none 0 0 S0 T0 _ Q5.out (PairsAt.nil _ _ _ _) (by omega) (by omega)).mono ?_
      rintro e w6 ⟨aj, cj, rfl, hb6, hp6⟩
      have B6 : Hid (BoxAt w s t w6) := B5.out.next hb6
      have P6 : Hid (PairsAt w6 aj (n0 + n2 + 1 + 0) (joinF (concatF S0 n0 S2) (n0 + n2) schemeB S0) (joinF (concatF T0 n0 T2) (n0 + n2) (prefixB ++ d) T0)) := hp6
      clear hb6 hp6 B5 Q5
      go_wp2_with fail
      refine (split12 aj _ cj _ _ _ P6.out (by omega)).mono ?_
      rintro e w7 ⟨x3, y3, x4, y4, rfl, hb7, hs7, ht7⟩
      have B7 : Hid (BoxAt w s t w7) := B6.out.next hb7
      have P7 : Hid (StrsAt w7 x3 (n0 + n2 + 1 + 0) (joinF (concatF S0 n0 S2) (n0 + n2) schemeB S0) ∧ StrsAt w7 x4 (n0 + n2 + 1 + 0) (joinF (concatF T0 n0 T2) (n0 + n2) (prefixB ++ d) T0)) := ⟨hs7, ht7⟩
      clear hb7 hs7 ht7 B6 P6
      go_wp2_with fail
      refine (cert14 none 0 0 x3 _ y3 _ x4 y4 _ _ P7.out.1 P7.out.2 (by omega)).mono ?_
      rintro e w8 ⟨g8, rfl, hb8, hc8⟩
      have B8 : Hid (BoxAt w s t w8) := B7.out.next hb8
      have P8 : Hid (CertAt w8 g8 (.slice none 0 0) (n0 + n2 + 1 + 0) (joinF (concatF S0 n0 S2) (n0 + n2) schemeB S0) (joinF (concatF T0 n0 T2) (n0 + n2) (prefixB ++ d) T0)) := hc8
      clear hb8 hc8 B7 P7
      go_wp2_with fail
      refine (role13 g8 _ _ _ _ _ (by omega) P8.out).mono ?_
      rintro e w8' ⟨rfl, without, okO, rfl, hrO⟩
      have RO : Hid (RoleIs (n0 + n2 + 1 + 0) (joinF (concatF S0 n0 S2) (n0 + n2) schemeB S0) (joinF (concatF T0 n0 T2) (n0 + n2) (prefixB ++ d) T0) without okO) := hrO
      have c80 : w8.cell? ⟨w.heap.size, 0, none⟩ = some (.string s) := B8.out.2.2.1
      have c81 : w8.cell? ⟨w.heap.size, 1, none⟩ = some (.string t) := B8.out.2.2.2
      clear hrO P8
      go_wp2_with fail
      refine (join15 a0 n0 c0 S0 T0 s t a2 n2 c2 S2 T2 _ (H0.out.below B8.out.1) (H2.out.below B8.out.1) (by omega) (by omega)).mono ?_
      rintro e w9 ⟨am, cm, rfl, hb9, hp9⟩
      have B9 : Hid (BoxAt w s t w9) := B8.out.next hb9
      have Q9 : Hid (PairsAt w9 am (n0 + 1 + n2) (joinF S0 n0 s S2) (joinF T0 n0 t T2)) := hp9
      clear hb9 hp9 B8 c80 c81
      go_wp2_with fail
      refine (role16 d _ bd).mono ?_
      rintro e w10 ⟨rfl, hb10⟩
      have B10 : Hid (BoxAt w s t w10) := B9.out.next hb10
      have Q10 : Hid (PairsAt w10 am (n0 + 1 + n2) (joinF S0 n0 s S2) (joinF T0 n0 t T2)) := Q9.out.below hb10
      clear hb10 B9 Q9
      go_wp2_with fail
      refine (join15 am _ cm _ _ schemeB (prefixB ++ d) none 0 0 S0 T0 _ Q10.out (PairsAt.nil _ _ _ _) (by omega) (by omega)).mono ?_
      rintro e w11 ⟨an, cn, rfl, hb11, hp11⟩
      have B11 : Hid (BoxAt w s t w11) := B10.out.next hb11
      have P11 : Hid (PairsAt w11 an (n0 + 1 + n2 + 1 + 0) (joinF (joinF S0 n0 s S2) (n0 + 1 + n2) schemeB S0) (joinF (joinF T0 n0 t T2) (n0 + 1 + n2) (prefixB ++ d) T0)) := hp11
      clear hb11 hp11 B10 Q10
      go_wp2_with fail
      refine (split12 an _ cn _ _ _ P11.out (by omega)).mono ?_
      rintro e w12 ⟨x5, y5, x6, y6, rfl, hb12, hs12, ht12⟩
      have B12 : Hid (BoxAt w s t w12) := B11.out.next hb12
      have P12 : Hid (StrsAt w12 x5 (n0 + 1 + n2 + 1 + 0) (joinF (joinF S0 n0 s S2) (n0 + 1 + n2) schemeB S0) ∧ StrsAt w12 x6 (n0 + 1 + n2 + 1 + 0) (joinF (joinF T0 n0 t T2) (n0 + 1 + n2) (prefixB ++ d) T0)) := ⟨hs12, ht12⟩
      clear hb12 hs12 ht12 B11 P11
      go_wp2_with fail
      refine (cert14 none 0 0 x5 _ y5 _ x6 y6 _ _ P12.out.1 P12.out.2 (by omega)).mono ?_
      rintro e w13 ⟨g13, rfl, hb13, hc13⟩
      have B13 : Hid (BoxAt w s t w13) := B12.out.next hb13
      have P13 : Hid (CertAt w13 g13 (.slice none 0 0) (n0 + 1 + n2 + 1 + 0) (joinF (joinF S0 n0 s S2) (n0 + 1 + n2) schemeB S0) (joinF (joinF T0 n0 t T2) (n0 + 1 + n2) (prefixB ++ d) T0)) := hc13
      clear hb13 hc13 B12 P12
      go_wp2_with fail
      refine (role13 g13 _ _ _ _ _ (by omega) P13.out).mono ?_
      rintro e w13' ⟨rfl, with_, okW, rfl, hrW⟩
      obtain ⟨rfl, rfl, rfl, f1, f2⟩ := role_ignores HN.out RP.out RO.out hrW
      clear hrW P13
      cases okP with
      | true =>
        obtain rfl := f1 rfl
        clear f1 f2
        go_wp2
        go_ret
        exact ⟨by simp, B13.out.1⟩
      | false =>
        obtain rfl := f2 rfl
        clear f1 f2
        go_wp2
        go_ret
        exact ⟨by simp, B13.out.1⟩
    | true =>
      have hq : (s.toList == [100, 111, 107, 105, 109, 97, 115, 105, 97]) = true := by rw [← scheme_list]; exact hq0
      cases hp : hasB t prefixB with
      | true =>
        clear hq0
        go_wp2_with fail
        all_goals try (go_ret; exact ⟨rfl, (B1.out.next (below_draws _ _)).1⟩)
        refine (has18 t prefixB _ (by decide)).mono ?_
        rintro e w' ⟨rfl, k3, rfl⟩
        rw [hp]
        go_wp2
        go_ret
        exact ⟨rfl, (B1.out.next (below_draws _ _)).1⟩
      | false =>
        have HN : Hid (isRole s t = false) := by unfold Hid isRole; rw [hp]; rfl
        clear hq0
        go_wp2_with fail
        all_goals try (go_ret; exact ⟨rfl, (B1.out.next (below_draws _ _)).1⟩)
        refine (has18 t prefixB _ (by decide)).mono ?_
        rintro e w' ⟨rfl, k3, rfl⟩
        rw [hp]
        clear hp
        go_wp2_with fail
        refine (concat19 a0 n0 c0 S0 T0 a2 n2 c2 S2 T2 _ (H0.out.below (B1.out.next (below_draws _ _)).1) (H2.out.below (B1.out.next (below_draws _ _)).1) b0 b2).mono ?_
        rintro e w2 ⟨ac, cc, rfl, hb2, hp2⟩
        have B2 : Hid (BoxAt w s t w2) := (B1.out.next (below_draws _ _)).next hb2
        have P2 : Hid (PairsAt w2 ac (n0 + n2) (concatF S0 n0 S2) (concatF T0 n0 T2)) := hp2
        clear hb2 hp2 c10 c11 B1
        go_wp2_with fail
        refine (split12 ac _ cc _ _ _ P2.out (by omega)).mono ?_
        rintro e w3 ⟨x1, y1, x2, y2, rfl, hb3, hs3, ht3⟩
        have B3 : Hid (BoxAt w s t w3) := B2.out.next hb3
        have Q3 : Hid (PairsAt w3 ac (n0 + n2) (concatF S0 n0 S2) (concatF T0 n0 T2)) := P2.out.below hb3
        have P3 : Hid (StrsAt w3 x1 (n0 + n2) (concatF S0 n0 S2) ∧ StrsAt w3 x2 (n0 + n2) (concatF T0 n0 T2)) := ⟨hs3, ht3⟩
        clear hb3 hs3 ht3 B2 P2
        go_wp2_with fail
        refine (cert14 none 0 0 x1 _ y1 _ x2 y2 _ _ P3.out.1 P3.out.2 (by omega)).mono ?_
        rintro e w4 ⟨g4, rfl, hb4, hc4⟩
        have B4 : Hid (BoxAt w s t w4) := B3.out.next hb4
        have Q4 : Hid (PairsAt w4 ac (n0 + n2) (concatF S0 n0 S2) (concatF T0 n0 T2)) := Q3.out.below hb4
        have P4 : Hid (CertAt w4 g4 (.slice none 0 0) (n0 + n2) (concatF S0 n0 S2) (concatF T0 n0 T2)) := hc4
        clear hb4 hc4 B3 Q3 P3
        go_wp2_with fail
        refine (role13 g4 _ _ _ _ _ (by omega) P4.out).mono ?_
        rintro e w4' ⟨rfl, plain, okP, rfl, hrP⟩
        have RP : Hid (RoleIs (n0 + n2) (concatF S0 n0 S2) (concatF T0 n0 T2) plain okP) := hrP
        clear hrP P4
        go_wp2_with fail
        refine (role16 d _ bd).mono ?_
        rintro e w5 ⟨rfl, hb5⟩
        have B5 : Hid (BoxAt w s t w5) := B4.out.next hb5
        have Q5 : Hid (PairsAt w5 ac (n0 + n2) (concatF S0 n0 S2) (concatF T0 n0 T2)) := Q4.out.below hb5
        clear hb5 B4 Q4
        go_wp2_with fail
        refine (join15 ac _ cc _ _ schemeB (prefixB ++ d) none 0 0 S0 T0 _ Q5.out (PairsAt.nil _ _ _ _) (by omega) (by omega)).mono ?_
        rintro e w6 ⟨aj, cj, rfl, hb6, hp6⟩
        have B6 : Hid (BoxAt w s t w6) := B5.out.next hb6
        have P6 : Hid (PairsAt w6 aj (n0 + n2 + 1 + 0) (joinF (concatF S0 n0 S2) (n0 + n2) schemeB S0) (joinF (concatF T0 n0 T2) (n0 + n2) (prefixB ++ d) T0)) := hp6
        clear hb6 hp6 B5 Q5
        go_wp2_with fail
        refine (split12 aj _ cj _ _ _ P6.out (by omega)).mono ?_
        rintro e w7 ⟨x3, y3, x4, y4, rfl, hb7, hs7, ht7⟩
        have B7 : Hid (BoxAt w s t w7) := B6.out.next hb7
        have P7 : Hid (StrsAt w7 x3 (n0 + n2 + 1 + 0) (joinF (concatF S0 n0 S2) (n0 + n2) schemeB S0) ∧ StrsAt w7 x4 (n0 + n2 + 1 + 0) (joinF (concatF T0 n0 T2) (n0 + n2) (prefixB ++ d) T0)) := ⟨hs7, ht7⟩
        clear hb7 hs7 ht7 B6 P6
        go_wp2_with fail
        refine (cert14 none 0 0 x3 _ y3 _ x4 y4 _ _ P7.out.1 P7.out.2 (by omega)).mono ?_
        rintro e w8 ⟨g8, rfl, hb8, hc8⟩
        have B8 : Hid (BoxAt w s t w8) := B7.out.next hb8
        have P8 : Hid (CertAt w8 g8 (.slice none 0 0) (n0 + n2 + 1 + 0) (joinF (concatF S0 n0 S2) (n0 + n2) schemeB S0) (joinF (concatF T0 n0 T2) (n0 + n2) (prefixB ++ d) T0)) := hc8
        clear hb8 hc8 B7 P7
        go_wp2_with fail
        refine (role13 g8 _ _ _ _ _ (by omega) P8.out).mono ?_
        rintro e w8' ⟨rfl, without, okO, rfl, hrO⟩
        have RO : Hid (RoleIs (n0 + n2 + 1 + 0) (joinF (concatF S0 n0 S2) (n0 + n2) schemeB S0) (joinF (concatF T0 n0 T2) (n0 + n2) (prefixB ++ d) T0) without okO) := hrO
        have c80 : w8.cell? ⟨w.heap.size, 0, none⟩ = some (.string s) := B8.out.2.2.1
        have c81 : w8.cell? ⟨w.heap.size, 1, none⟩ = some (.string t) := B8.out.2.2.2
        clear hrO P8
        go_wp2_with fail
        refine (join15 a0 n0 c0 S0 T0 s t a2 n2 c2 S2 T2 _ (H0.out.below B8.out.1) (H2.out.below B8.out.1) (by omega) (by omega)).mono ?_
        rintro e w9 ⟨am, cm, rfl, hb9, hp9⟩
        have B9 : Hid (BoxAt w s t w9) := B8.out.next hb9
        have Q9 : Hid (PairsAt w9 am (n0 + 1 + n2) (joinF S0 n0 s S2) (joinF T0 n0 t T2)) := hp9
        clear hb9 hp9 B8 c80 c81
        go_wp2_with fail
        refine (role16 d _ bd).mono ?_
        rintro e w10 ⟨rfl, hb10⟩
        have B10 : Hid (BoxAt w s t w10) := B9.out.next hb10
        have Q10 : Hid (PairsAt w10 am (n0 + 1 + n2) (joinF S0 n0 s S2) (joinF T0 n0 t T2)) := Q9.out.below hb10
        clear hb10 B9 Q9
        go_wp2_with fail
        refine (join15 am _ cm _ _ schemeB (prefixB ++ d) none 0 0 S0 T0 _ Q10.out (PairsAt.nil _ _ _ _) (by omega) (by omega)).mono ?_
        rintro e w11 ⟨an, cn, rfl, hb11, hp11⟩
        have B11 : Hid (BoxAt w s t w11) := B10.out.next hb11
        have P11 : Hid (PairsAt w11 an (n0 + 1 + n2 + 1 + 0) (joinF (joinF S0 n0 s S2) (n0 + 1 + n2) schemeB S0) (joinF (joinF T0 n0 t T2) (n0 + 1 + n2) (prefixB ++ d) T0)) := hp11
        clear hb11 hp11 B10 Q10
        go_wp2_with fail
        refine (split12 an _ cn _ _ _ P11.out (by omega)).mono ?_
        rintro e w12 ⟨x5, y5, x6, y6, rfl, hb12, hs12, ht12⟩
        have B12 : Hid (BoxAt w s t w12) := B11.out.next hb12
        have P12 : Hid (StrsAt w12 x5 (n0 + 1 + n2 + 1 + 0) (joinF (joinF S0 n0 s S2) (n0 + 1 + n2) schemeB S0) ∧ StrsAt w12 x6 (n0 + 1 + n2 + 1 + 0) (joinF (joinF T0 n0 t T2) (n0 + 1 + n2) (prefixB ++ d) T0)) := ⟨hs12, ht12⟩
        clear hb12 hs12 ht12 B11 P11
        go_wp2_with fail
        refine (cert14 none 0 0 x5 _ y5 _ x6 y6 _ _ P12.out.1 P12.out.2 (by omega)).mono ?_
        rintro e w13 ⟨g13, rfl, hb13, hc13⟩
        have B13 : Hid (BoxAt w s t w13) := B12.out.next hb13
        have P13 : Hid (CertAt w13 g13 (.slice none 0 0) (n0 + 1 + n2 + 1 + 0) (joinF (joinF S0 n0 s S2) (n0 + 1 + n2) schemeB S0) (joinF (joinF T0 n0 t T2) (n0 + 1 + n2) (prefixB ++ d) T0)) := hc13
        clear hb13 hc13 B12 P12
        go_wp2_with fail
        refine (role13 g13 _ _ _ _ _ (by omega) P13.out).mono ?_
        rintro e w13' ⟨rfl, with_, okW, rfl, hrW⟩
        obtain ⟨rfl, rfl, rfl, f1, f2⟩ := role_ignores HN.out RP.out RO.out hrW
        clear hrW P13
        cases okP with
        | true =>
          obtain rfl := f1 rfl
          clear f1 f2
          go_wp2
          go_ret
          exact ⟨by simp, B13.out.1⟩
        | false =>
          obtain rfl := f2 rfl
          clear f1 f2
          go_wp2
          go_ret
          exact ⟨by simp, B13.out.1⟩

end Go.Proofs.Qxb6616928a
