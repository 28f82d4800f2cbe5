import Derived.Test.Qxb6616928aBeforeAt
namespace Go.Proofs.Qxb6616928a
open Go.RowKit

set_option maxHeartbeats 1000000 in
theorem bytes39 (a0 a1 a2 : Int) (a3 : ByteArray) (a4 : Bool) (a5 a6 a7 : Int) (a8 : ByteArray) (a9 : Int) (a10 : ByteArray) (w : World) (w3 : a3.size ≤ maxLen) (w8 : a8.size ≤ maxLen) (w10 : a10.size ≤ maxLen) :
    Calls Try.prog 39 #[.int .i64 a0, .int .i64 a1, .int .i64 a2, .string a3, .bool a4, .int .i64 a5, .int .i64 a6, .int .i64 a7, .string a8, .int .i64 a9, .string a10] w (BoolIf True w) := by
  unfold maxLen at w3 w8 w10
  go_enter Try.func39, Try.ntmps39
  go_wp2
  all_goals
    go_ret
    first | exact BoolIf.no _ _ | exact BoolIf.yes _ trivial

set_option maxHeartbeats 4000000 in
theorem walk9 (a0 a1 a2 : Int) (a3 : ByteArray) (a4 : Bool) (a5 a6 a7 : Int) (a8 : ByteArray) (a9 : Int) (a10 : ByteArray) (w : World) (w3 : a3.size ≤ maxLen) (w8 : a8.size ≤ maxLen) (w10 : a10.size ≤ maxLen) :
    Calls Try.prog 9 #[.int .i64 a0, .int .i64 a1, .int .i64 a2, .string a3, .bool a4, .int .i64 a5, .int .i64 a6, .int .i64 a7, .string a8, .int .i64 a9, .string a10] w (TrueOut w) := by
  go_enter Try.func9, Try.ntmps9
  go_wp2_with fail
  refine (bytes39 a0 a1 a2 a3 a4 a5 a6 a7 a8 a9 a10 w w3 w8 w10).mono ?_
  rintro e w' ⟨rfl, r, rfl, _⟩
  cases r with
  | false =>
    go_wp2
    go_ret
    exact TrueOut.here _
  | true =>
    clear w3 w8 w10
    go_wp2_with (go_at_call 27; go_in)
    all_goals try (go_ret; exact TrueOut.here _)
    have I : Hid (inNs a1 ∧ inNs a2 ∧ inNs a6 ∧ inNs a7 ∧ inNs a9) := by unfold Hid inNs; omega
    cases a4 with
    | false =>
      refine (build28_no a0 a1 a2 a3 a5 a6 a7 a8 w I.out.1 I.out.2.1).mono ?_
      rintro e w1 ⟨s, n, rfl, hset⟩
      have S1 : Hid (SetNo w w1 s n a0 a1 a2 a3) := hset
      clear hset
      go_wp2_with fail
      refine (with34_no s n a0 a1 a2 a3 a10 _ S1.out.2.1 S1.out.2.2).mono ?_
      rintro e w2 ⟨s2, m, rfl, hset2, hm⟩
      have S2 : Hid (SetNo w1 w2 s2 m a0 a1 a2 a10) := hset2
      have B2 : Hid (Below w.heap.size w w2) := S1.out.1.trans (S2.out.1.mono S1.out.1.size)
      clear hset2 hm
      go_wp2_with fail
      refine (beforeAt40_nil s n a9 _ (S1.out.2.1.below S2.out.1) I.out.2.2.2.2).mono ?_
      rintro e w3 ⟨rfl, hb3⟩
      have B3 : Hid (Below w2.heap.size w2 w3) := hb3
      clear hb3
      go_wp2_with fail
      refine (beforeAt40_nil s2 m a9 _ (S2.out.2.1.below B3.out) I.out.2.2.2.2).mono ?_
      rintro e w4 ⟨rfl, hb4⟩
      have B4 : Hid (Below w.heap.size w w4) := (B2.out.trans (B3.out.mono B2.out.size)).trans (hb4.mono (Nat.le_trans B2.out.size B3.out.size))
      clear hb4
      go_wp2
      go_ret
      exact ⟨rfl, B4.out⟩
    | true =>
      refine (build28_yes a0 a1 a2 a3 a5 a6 a7 a8 w I.out.1 I.out.2.1 I.out.2.2.1 I.out.2.2.2.1).mono ?_
      rintro e w1 ⟨s, n, b, rfl, hset⟩
      have S1 : Hid (SetYes w w1 s n b a0 a1 a2 a3 a5 a6 a7 a8) := hset
      clear hset
      go_wp2_with fail
      refine (with34_yes s n b a0 a1 a2 a3 a5 a6 a7 a8 a10 _ S1.out.2.1 S1.out.2.2.1 S1.out.2.2.2.1).mono ?_
      rintro e w2 ⟨s2, m, b2, rfl, hset2, hm, hm2⟩
      have S2 : Hid (SetYes w1 w2 s2 m b2 a0 a1 a2 a10 a5 a6 a7 a10) := hset2
      have HN : Hid (b2 ≠ b) := by obtain ⟨k, h, _⟩ := S1.out.2.2.2.1; have := h.1; unfold Hid; omega
      have B2 : Hid (Below w.heap.size w w2) := S1.out.1.trans (S2.out.1.mono S1.out.1.size)
      clear hset2 hm hm2
      go_wp2_with fail
      refine (beforeAt40_yes s n b a9 a5 a6 a7 a8 _ (S1.out.2.1.below S2.out.1) (S1.out.2.2.2.1.below S2.out.1) I.out.2.2.2.2 _ rfl).mono ?_
      rintro e w3 ⟨rfl, hb3⟩
      have B3 : Hid (Below w2.heap.size w2 w3) := hb3
      clear hb3
      by_cases hlt : a9 < a7
      · have ed : decide (a9 < a7) = true := decide_eq_true hlt
        rw [ed]
        go_wp2_with fail
        refine (beforeAt40_yes s2 m b2 a9 a5 a6 a7 a10 _ (S2.out.2.1.below B3.out) (S2.out.2.2.2.1.below B3.out) I.out.2.2.2.2 _ ed).mono ?_
        rintro e w4 ⟨rfl, hb4⟩
        have B4 : Hid (Below w2.heap.size w2 w4) := B3.out.trans (hb4.mono B3.out.size)
        have C2 : Hid (CAIs w4 b2 a5 a6 a7 a10) := S2.out.2.2.2.1.below B4.out
        have C1 : Hid (CAIs w4 b a5 a6 a7 a8) := (S1.out.2.2.2.1.below S2.out.1).below B4.out
        have E1 := ptr_neq_same w4 ⟨b, 0, none⟩
        have E2 := ptr_eql_other HN.out C2.out.plain C1.out.plain
        have B5 : Hid (Below w.heap.size w w4) := B2.out.trans (B4.out.mono B2.out.size)
        clear hb4 ed
        go_wp2_with fail
        refine (get35 b2 a5 a6 a7 a10 _ C2.out).mono ?_
        rintro e _ ⟨rfl, rfl⟩
        go_wp2_with fail
        refine (get36 b2 a5 a6 a7 a10 _ C2.out).mono ?_
        rintro e _ ⟨rfl, rfl⟩
        go_wp2_with fail
        refine (get37 b2 a5 a6 a7 a10 _ C2.out I.out.2.2.1).mono ?_
        rintro e w5 ⟨rfl, hb5⟩
        have B6 : Hid (Below w4.heap.size w4 w5) := hb5
        clear hb5
        go_wp2_with fail
        refine (get38 b2 a5 a6 a7 a10 _ (C2.out.below B6.out) I.out.2.2.2.1).mono ?_
        rintro e w6 ⟨rfl, hb6⟩
        have B7 : Hid (Below w4.heap.size w4 w6) := B6.out.trans (hb6.mono B6.out.size)
        clear hb6
        go_wp2_with fail
        refine (get36 b a5 a6 a7 a8 _ (C1.out.below B7.out)).mono ?_
        rintro e _ ⟨rfl, rfl⟩
        go_wp2
        go_ret
        exact ⟨by simp, B5.out.trans (B7.out.mono B5.out.size)⟩
      · have ed : decide (a9 < a7) = false := decide_eq_false hlt
        rw [ed]
        go_wp2_with fail
        refine (beforeAt40_yes s2 m b2 a9 a5 a6 a7 a10 _ (S2.out.2.1.below B3.out) (S2.out.2.2.2.1.below B3.out) I.out.2.2.2.2 _ ed).mono ?_
        rintro e w4 ⟨rfl, hb4⟩
        have B4 : Hid (Below w2.heap.size w2 w4) := B3.out.trans (hb4.mono B3.out.size)
        have B5 : Hid (Below w.heap.size w w4) := B2.out.trans (B4.out.mono B2.out.size)
        clear hb4
        go_wp2
        go_ret
        exact ⟨rfl, B5.out⟩
end Go.Proofs.Qxb6616928a
