import Derived.Test.Qxb6616928aTrusted
namespace Go.Proofs.Qxb6616928a
open Go.RowKit

set_option maxHeartbeats 1000000 in
theorem trusted32_nil (s n : Nat) (now : Int) (w : World) (hs : SetT w s n (.pointer none)) (h0 : -9000000000000000000 ≤ now) (h1 : now ≤ 9000000000000000000) :
    Calls Try.prog 32 #[.pointer (some ⟨s, 0, none⟩), .int .i64 now] w (Trust1 w n) := by
  have HS : Hid (SetT w s n (.pointer none)) := hs
  have HT : Hid (∀ w, Calls Try.prog 47 #[.int .i64 now] w (TimeOut w (now % 1000000000) (now / 1000000000))) := fun w => at47 now w (by omega) (by omega)
  clear hs h0 h1
  go_enter Try.func32, Try.ntmps32
  go_wp2_with fail
  refine (HT.out _).mono ?_
  rintro e w1 ⟨rfl, hb1⟩
  have B1 : Hid (Below w.heap.size w w1) := hb1
  clear hb1
  go_wp2_with fail
  refine (trusted48_nil s n _ _ _ (HS.out.below B1.out)).mono ?_
  rintro e w2 ⟨g, c, rfl, hb2, hc⟩
  have B2 : Hid (Below w.heap.size w w2 ∧ w2.cell? ⟨g, 0, none⟩ = some (.pointer (some ⟨n, 0, none⟩))) := ⟨B1.out.trans (hb2.mono B1.out.size), hc⟩
  clear hb2 hc
  go_wp2
  go_ret
  exact ⟨_, _, rfl, B2.out⟩

set_option maxHeartbeats 1000000 in
theorem trusted32_yes (s n b : Nat) (g nb na : Int) (crl : ByteArray) (g' nb' na' : Int) (crl' : ByteArray) (now : Int) (w : World) (hs : SetT w s n (.pointer (some ⟨b, 0, none⟩))) (hn : CAIs w n g nb na crl) (hb : CAIs w b g' nb' na' crl') (hne : n ≠ b) (h1 : inNs nb) (hz : handNs nb na' ≤ now) (h2 : -9000000000000000000 ≤ now) (h3 : now ≤ 9000000000000000000) :
    Calls Try.prog 32 #[.pointer (some ⟨s, 0, none⟩), .int .i64 now] w (if now < na' then Trust2 w n b else Trust1 w n) := by
  have HC : Hid (∀ w, SetT w s n (.pointer (some ⟨b, 0, none⟩)) → CAIs w n g nb na crl → CAIs w b g' nb' na' crl' → Calls Try.prog 48 #[.pointer (some ⟨s, 0, none⟩), .agg #[.int .u64 (now % 1000000000), .int .i64 (now / 1000000000), .pointer none]] w (if now < na' then Trust2 w n b else Trust1 w n)) := fun w a1 a2 a3 => trusted48_yes s n b g nb na crl g' nb' na' crl' now w a1 a2 a3 hne h1 hz
  have HS : Hid (SetT w s n (.pointer (some ⟨b, 0, none⟩)) ∧ CAIs w n g nb na crl ∧ CAIs w b g' nb' na' crl') := ⟨hs, hn, hb⟩
  have HT : Hid (∀ w, Calls Try.prog 47 #[.int .i64 now] w (TimeOut w (now % 1000000000) (now / 1000000000))) := fun w => at47 now w (by omega) (by omega)
  clear hs hn hb hne h1 hz h2 h3
  by_cases hlt : now < na'
  · rw [if_pos hlt]
    simp only [if_pos hlt] at HC
    clear hlt
    go_enter Try.func32, Try.ntmps32
    go_wp2_with fail
    refine (HT.out _).mono ?_
    rintro e w1 ⟨rfl, hb1⟩
    have B1 : Hid (Below w.heap.size w w1) := hb1
    clear hb1
    go_wp2_with fail
    refine (HC.out _ (HS.out.1.below B1.out) (HS.out.2.1.below B1.out) (HS.out.2.2.below B1.out)).mono ?_
    rintro e w2 ⟨ga, c, rfl, hb2, hc, hc1⟩
    have B2 : Hid (Below w.heap.size w w2 ∧ w2.cell? ⟨ga, 0, none⟩ = some (.pointer (some ⟨n, 0, none⟩)) ∧ w2.cell? ⟨ga, 1, none⟩ = some (.pointer (some ⟨b, 0, none⟩))) := ⟨B1.out.trans (hb2.mono B1.out.size), hc, hc1⟩
    clear hb2 hc hc1
    go_wp2
    go_ret
    exact ⟨_, _, rfl, B2.out⟩
  · rw [if_neg hlt]
    simp only [if_neg hlt] at HC
    clear hlt
    go_enter Try.func32, Try.ntmps32
    go_wp2_with fail
    refine (HT.out _).mono ?_
    rintro e w1 ⟨rfl, hb1⟩
    have B1 : Hid (Below w.heap.size w w1) := hb1
    clear hb1
    go_wp2_with fail
    refine (HC.out _ (HS.out.1.below B1.out) (HS.out.2.1.below B1.out) (HS.out.2.2.below B1.out)).mono ?_
    rintro e w2 ⟨ga, c, rfl, hb2, hc⟩
    have B2 : Hid (Below w.heap.size w w2 ∧ w2.cell? ⟨ga, 0, none⟩ = some (.pointer (some ⟨n, 0, none⟩))) := ⟨B1.out.trans (hb2.mono B1.out.size), hc⟩
    clear hb2 hc
    go_wp2
    go_ret
    exact ⟨_, _, rfl, B2.out⟩

set_option maxHeartbeats 1000000 in
theorem bytes26 (a0 a1 a2 : Int) (a3 : ByteArray) (a4 : Bool) (a5 a6 a7 : Int) (a8 : ByteArray) (a9 : Int) (w : World) (w3 : a3.size ≤ maxLen) (w8 : a8.size ≤ maxLen) :
    Calls Try.prog 26 #[.int .i64 a0, .int .i64 a1, .int .i64 a2, .string a3, .bool a4, .int .i64 a5, .int .i64 a6, .int .i64 a7, .string a8, .int .i64 a9] w (BoolIf True w) := by
  unfold maxLen at w3 w8
  go_enter Try.func26, Try.ntmps26
  go_wp2
  all_goals
    go_ret
    first | exact BoolIf.no _ _ | exact BoolIf.yes _ trivial

set_option maxHeartbeats 8000000 in
theorem walk7 (a0 a1 a2 : Int) (a3 : ByteArray) (a4 : Bool) (a5 a6 a7 : Int) (a8 : ByteArray) (a9 : Int) (w : World) (w3 : a3.size ≤ maxLen) (w8 : a8.size ≤ maxLen) :
    Calls Try.prog 7 #[.int .i64 a0, .int .i64 a1, .int .i64 a2, .string a3, .bool a4, .int .i64 a5, .int .i64 a6, .int .i64 a7, .string a8, .int .i64 a9] w (TrueOut w) := by
  go_enter Try.func7, Try.ntmps7
  go_wp2_with fail
  refine (bytes26 a0 a1 a2 a3 a4 a5 a6 a7 a8 a9 w w3 w8).mono ?_
  rintro e w' ⟨rfl, r, rfl, _⟩
  cases r with
  | false =>
    go_wp2
    go_ret
    exact TrueOut.here _
  | true =>
    clear w3 w8
    go_wp2_with (go_at_call 27; go_in)
    all_goals try (go_ret; exact TrueOut.here _)
    have I : Hid (inNs a1 ∧ inNs a2 ∧ inNs a6 ∧ inNs a7 ∧ inNs a9) := by unfold Hid inNs; omega
    have E1 := fun (w : World) (n : Nat) => ptr_neq_same w ⟨n, 0, none⟩
    cases a4 with
    | false =>
      refine (build28_no a0 a1 a2 a3 a5 a6 a7 a8 w I.out.1 I.out.2.1).mono ?_
      rintro e w1 ⟨s, n, rfl, hset⟩
      have S1 : Hid (SetNo w w1 s n a0 a1 a2 a3) := hset
      clear hset
      go_wp2_with fail
      refine (newest29 s n _ _ S1.out.2.1).mono ?_
      rintro e _ ⟨rfl, rfl⟩
      go_wp2_with fail
      refine (handNs30_nil s n _ S1.out.2.1).mono ?_
      rintro e w2 ⟨rfl, hb2⟩
      have B2 : Hid (Below w1.heap.size w1 w2) := hb2
      clear hb2
      by_cases hlt : a9 < 0
      · go_wp2_with fail
        refine (issuing31_nil s n 0 _ (S1.out.2.1.below B2.out) (by omega) (by omega)).mono ?_
        rintro e w3 ⟨rfl, hb3⟩
        have B3 : Hid (Below w1.heap.size w1 w3) := B2.out.trans (hb3.mono B2.out.size)
        clear hb3
        go_wp2_with fail
        refine (newest29 s n _ _ (S1.out.2.1.below B3.out)).mono ?_
        rintro e _ ⟨rfl, rfl⟩
        go_wp2_with fail
        refine (trusted32_nil s n 0 _ (S1.out.2.1.below B3.out) (by omega) (by omega)).mono ?_
        rintro e w4 ⟨ga, c, rfl, hb4, hc⟩
        have B4 : Hid (Below w.heap.size w w4) := (S1.out.1.trans (B3.out.mono S1.out.1.size)).trans (hb4.mono (Nat.le_trans S1.out.1.size B3.out.size))
        clear hb4
        go_wp2
        go_ret
        exact ⟨rfl, B4.out⟩
      · go_wp2_with fail
        refine (issuing31_nil s n a9 _ (S1.out.2.1.below B2.out) (by omega) (by omega)).mono ?_
        rintro e w3 ⟨rfl, hb3⟩
        have B3 : Hid (Below w1.heap.size w1 w3) := B2.out.trans (hb3.mono B2.out.size)
        clear hb3
        go_wp2_with fail
        refine (newest29 s n _ _ (S1.out.2.1.below B3.out)).mono ?_
        rintro e _ ⟨rfl, rfl⟩
        go_wp2_with fail
        refine (trusted32_nil s n a9 _ (S1.out.2.1.below B3.out) (by omega) (by omega)).mono ?_
        rintro e w4 ⟨ga, c, rfl, hb4, hc⟩
        have B4 : Hid (Below w.heap.size w w4) := (S1.out.1.trans (B3.out.mono S1.out.1.size)).trans (hb4.mono (Nat.le_trans S1.out.1.size B3.out.size))
        clear hb4
        go_wp2
        go_ret
        exact ⟨rfl, B4.out⟩
    | true =>
      refine (build28_yes a0 a1 a2 a3 a5 a6 a7 a8 w I.out.1 I.out.2.1 I.out.2.2.1 I.out.2.2.2.1).mono ?_
      rintro e w1 ⟨s, n, b, rfl, hset⟩
      have S1 : Hid (SetYes w w1 s n b a0 a1 a2 a3 a5 a6 a7 a8) := hset
      obtain ⟨h, hh⟩ : ∃ h, h = handNs a1 a7 := ⟨_, rfl⟩
      have HH : Hid (h = handNs a1 a7) := hh
      have hb0 : -8000000000000000000 ≤ h := by have i1 := I.out.1; have i2 := I.out.2.2.2.1; unfold inNs at i1 i2; unfold handNs at hh; split at hh <;> omega
      have hb1 : h ≤ 8000000000000000000 := by have i1 := I.out.1; have i2 := I.out.2.2.2.1; unfold inNs at i1 i2; unfold handNs at hh; split at hh <;> omega
      clear hset hh
      go_wp2_with fail
      refine (newest29 s n _ _ S1.out.2.1).mono ?_
      rintro e _ ⟨rfl, rfl⟩
      go_wp2_with fail
      refine (handNs30_yes s n b a0 a1 a2 a3 a5 a6 a7 a8 _ S1.out.2.1 S1.out.2.2.1 S1.out.2.2.2.1 I.out.1 I.out.2.2.2.1 h HH.out).mono ?_
      rintro e w2 ⟨rfl, hb2⟩
      have B2 : Hid (Below w1.heap.size w1 w2) := hb2
      clear hb2
      by_cases hlt : a9 < h
      · have HL : Hid (handNs a1 a7 ≤ h) := by unfold Hid; rw [← HH.out]; omega
        go_wp2_with fail
        refine (issuing31_yes s n b a0 a1 a2 a3 a5 a6 a7 a8 h _ (S1.out.2.1.below B2.out) (S1.out.2.2.1.below B2.out) (S1.out.2.2.2.1.below B2.out) I.out.1 HL.out (by omega) (by omega)).mono ?_
        rintro e w3 ⟨rfl, hb3⟩
        have B3 : Hid (Below w1.heap.size w1 w3) := B2.out.trans (hb3.mono B2.out.size)
        clear hb3
        go_wp2_with fail
        refine (newest29 s n _ _ (S1.out.2.1.below B3.out)).mono ?_
        rintro e _ ⟨rfl, rfl⟩
        go_wp2_with fail
        refine (trusted32_yes s n b a0 a1 a2 a3 a5 a6 a7 a8 h _ (S1.out.2.1.below B3.out) (S1.out.2.2.1.below B3.out) (S1.out.2.2.2.1.below B3.out) S1.out.2.2.2.2 I.out.1 HL.out (by omega) (by omega)).mono ?_
        by_cases ha : h < a7
        · rw [if_pos ha]
          rintro e w4 ⟨ga, c, rfl, hb4, hc0, hc1⟩
          have B4 : Hid (Below w.heap.size w w4) := (S1.out.1.trans (B3.out.mono S1.out.1.size)).trans (hb4.mono (Nat.le_trans S1.out.1.size B3.out.size))
          clear hb4
          go_wp2
          go_ret
          exact ⟨rfl, B4.out⟩
        · rw [if_neg ha]
          rintro e w4 ⟨ga, c, rfl, hb4, hc0⟩
          have B4 : Hid (Below w.heap.size w w4) := (S1.out.1.trans (B3.out.mono S1.out.1.size)).trans (hb4.mono (Nat.le_trans S1.out.1.size B3.out.size))
          clear hb4
          go_wp2
          go_ret
          exact ⟨rfl, B4.out⟩
      · have HL : Hid (handNs a1 a7 ≤ a9) := by unfold Hid; rw [← HH.out]; omega
        go_wp2_with fail
        refine (issuing31_yes s n b a0 a1 a2 a3 a5 a6 a7 a8 a9 _ (S1.out.2.1.below B2.out) (S1.out.2.2.1.below B2.out) (S1.out.2.2.2.1.below B2.out) I.out.1 HL.out (by omega) (by omega)).mono ?_
        rintro e w3 ⟨rfl, hb3⟩
        have B3 : Hid (Below w1.heap.size w1 w3) := B2.out.trans (hb3.mono B2.out.size)
        clear hb3
        go_wp2_with fail
        refine (newest29 s n _ _ (S1.out.2.1.below B3.out)).mono ?_
        rintro e _ ⟨rfl, rfl⟩
        go_wp2_with fail
        refine (trusted32_yes s n b a0 a1 a2 a3 a5 a6 a7 a8 a9 _ (S1.out.2.1.below B3.out) (S1.out.2.2.1.below B3.out) (S1.out.2.2.2.1.below B3.out) S1.out.2.2.2.2 I.out.1 HL.out (by omega) (by omega)).mono ?_
        by_cases ha : a9 < a7
        · rw [if_pos ha]
          rintro e w4 ⟨ga, c, rfl, hb4, hc0, hc1⟩
          have B4 : Hid (Below w.heap.size w w4) := (S1.out.1.trans (B3.out.mono S1.out.1.size)).trans (hb4.mono (Nat.le_trans S1.out.1.size B3.out.size))
          clear hb4
          go_wp2
          go_ret
          exact ⟨rfl, B4.out⟩
        · rw [if_neg ha]
          rintro e w4 ⟨ga, c, rfl, hb4, hc0⟩
          have B4 : Hid (Below w.heap.size w w4) := (S1.out.1.trans (B3.out.mono S1.out.1.size)).trans (hb4.mono (Nat.le_trans S1.out.1.size B3.out.size))
          clear hb4
          go_wp2
          go_ret
          exact ⟨rfl, B4.out⟩
end Go.Proofs.Qxb6616928a
