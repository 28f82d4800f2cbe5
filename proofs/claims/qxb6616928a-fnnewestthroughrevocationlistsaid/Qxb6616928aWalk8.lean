import Derived.Test.Qxb6616928aPtr
namespace Go.Proofs.Qxb6616928a
open Go.RowKit

set_option maxHeartbeats 1000000 in
theorem bytes33 (a0 a1 a2 : Int) (a3 : ByteArray) (a4 : Bool) (a5 a6 a7 : Int) (a8 a9 : ByteArray) (w : World) (w3 : a3.size ≤ maxLen) (w8 : a8.size ≤ maxLen) (w9 : a9.size ≤ maxLen) :
    Calls Try.prog 33 #[.int .i64 a0, .int .i64 a1, .int .i64 a2, .string a3, .bool a4, .int .i64 a5, .int .i64 a6, .int .i64 a7, .string a8, .string a9] w (BoolIf True w) := by
  unfold maxLen at w3 w8 w9
  go_enter Try.func33, Try.ntmps33
  go_wp2
  all_goals
    go_ret
    first | exact BoolIf.no _ _ | exact BoolIf.yes _ trivial

set_option maxHeartbeats 4000000 in
theorem walk8 (a0 a1 a2 : Int) (a3 : ByteArray) (a4 : Bool) (a5 a6 a7 : Int) (a8 a9 : ByteArray) (w : World) (w3 : a3.size ≤ maxLen) (w8 : a8.size ≤ maxLen) (w9 : a9.size ≤ maxLen) :
    Calls Try.prog 8 #[.int .i64 a0, .int .i64 a1, .int .i64 a2, .string a3, .bool a4, .int .i64 a5, .int .i64 a6, .int .i64 a7, .string a8, .string a9] w (TrueOut w) := by
  go_enter Try.func8, Try.ntmps8
  go_wp2_with fail
  refine (bytes33 a0 a1 a2 a3 a4 a5 a6 a7 a8 a9 w w3 w8 w9).mono ?_
  rintro e w' ⟨rfl, r, rfl, _⟩
  cases r with
  | false =>
    go_wp2
    go_ret
    exact TrueOut.here _
  | true =>
    clear w3 w8 w9
    go_wp2_with (go_at_call 27; go_in)
    all_goals try (go_ret; exact TrueOut.here _)
    have I : Hid (inNs a1 ∧ inNs a2 ∧ inNs a6 ∧ inNs a7) := by unfold Hid inNs; omega
    cases a4 with
    | false =>
      refine (build28_no a0 a1 a2 a3 a5 a6 a7 a8 w I.out.1 I.out.2.1).mono ?_
      rintro e w1 ⟨s, n, rfl, hset⟩
      have S1 : Hid (SetNo w w1 s n a0 a1 a2 a3) := hset
      clear hset
      go_wp2_with fail
      refine (with34_no s n a0 a1 a2 a3 a9 _ S1.out.2.1 S1.out.2.2).mono ?_
      rintro e w2 ⟨s2, m, rfl, hset2, hm⟩
      have S2 : Hid (SetNo w1 w2 s2 m a0 a1 a2 a9) := hset2
      have hne : m ≠ n := by obtain ⟨k, h, _⟩ := S1.out.2.2; have := h.1; omega
      have E1 := ptr_neq_same w2 ⟨n, 0, none⟩
      have E2 := ptr_eql_other hne S2.out.2.2.plain (S1.out.2.2.below S2.out.1).plain
      have B2 : Hid (Below w.heap.size w w2) := S1.out.1.trans (S2.out.1.mono S1.out.1.size)
      clear hset2 hm hne
      go_wp2_with fail
      refine (newest29 s2 m _ _ S2.out.2.1).mono ?_
      rintro e _ ⟨rfl, rfl⟩
      go_wp2_with fail
      refine (newest29 s n _ _ (S1.out.2.1.below S2.out.1)).mono ?_
      rintro e _ ⟨rfl, rfl⟩
      go_wp2_with fail
      refine (get35 m a0 a1 a2 a9 _ S2.out.2.2).mono ?_
      rintro e _ ⟨rfl, rfl⟩
      go_wp2_with fail
      refine (get36 m a0 a1 a2 a9 _ S2.out.2.2).mono ?_
      rintro e _ ⟨rfl, rfl⟩
      go_wp2_with fail
      refine (get37 m a0 a1 a2 a9 _ S2.out.2.2 I.out.1).mono ?_
      rintro e w4 ⟨rfl, hb4⟩
      have B4 : Hid (Below w2.heap.size w2 w4) := hb4
      clear hb4
      go_wp2_with fail
      refine (get38 m a0 a1 a2 a9 _ (S2.out.2.2.below B4.out) I.out.2.1).mono ?_
      rintro e w5 ⟨rfl, hb5⟩
      have B5 : Hid (Below w2.heap.size w2 w5) := B4.out.trans (hb5.mono B4.out.size)
      clear hb5
      go_wp2_with fail
      refine (get36 n a0 a1 a2 a3 _ ((S1.out.2.2.below S2.out.1).below B5.out)).mono ?_
      rintro e _ ⟨rfl, rfl⟩
      go_wp2
      go_ret
      exact ⟨by simp, B2.out.trans (B5.out.mono B2.out.size)⟩
    | true =>
      refine (build28_yes a0 a1 a2 a3 a5 a6 a7 a8 w I.out.1 I.out.2.1 I.out.2.2.1 I.out.2.2.2).mono ?_
      rintro e w1 ⟨s, n, b, rfl, hset⟩
      have S1 : Hid (SetYes w w1 s n b a0 a1 a2 a3 a5 a6 a7 a8) := hset
      clear hset
      go_wp2_with fail
      refine (with34_yes s n b a0 a1 a2 a3 a5 a6 a7 a8 a9 _ S1.out.2.1 S1.out.2.2.1 S1.out.2.2.2.1).mono ?_
      rintro e w2 ⟨s2, m, b2, rfl, hset2, hm, hm2⟩
      have S2 : Hid (SetYes w1 w2 s2 m b2 a0 a1 a2 a9 a5 a6 a7 a9) := hset2
      have hne : m ≠ n := by obtain ⟨k, h, _⟩ := S1.out.2.2.1; have := h.1; omega
      have E1 := ptr_neq_same w2 ⟨n, 0, none⟩
      have E2 := ptr_eql_other hne S2.out.2.2.1.plain (S1.out.2.2.1.below S2.out.1).plain
      have B2 : Hid (Below w.heap.size w w2) := S1.out.1.trans (S2.out.1.mono S1.out.1.size)
      clear hset2 hm hm2 hne
      go_wp2_with fail
      refine (newest29 s2 m _ _ S2.out.2.1).mono ?_
      rintro e _ ⟨rfl, rfl⟩
      go_wp2_with fail
      refine (newest29 s n _ _ (S1.out.2.1.below S2.out.1)).mono ?_
      rintro e _ ⟨rfl, rfl⟩
      go_wp2_with fail
      refine (get35 m a0 a1 a2 a9 _ S2.out.2.2.1).mono ?_
      rintro e _ ⟨rfl, rfl⟩
      go_wp2_with fail
      refine (get36 m a0 a1 a2 a9 _ S2.out.2.2.1).mono ?_
      rintro e _ ⟨rfl, rfl⟩
      go_wp2_with fail
      refine (get37 m a0 a1 a2 a9 _ S2.out.2.2.1 I.out.1).mono ?_
      rintro e w4 ⟨rfl, hb4⟩
      have B4 : Hid (Below w2.heap.size w2 w4) := hb4
      clear hb4
      go_wp2_with fail
      refine (get38 m a0 a1 a2 a9 _ (S2.out.2.2.1.below B4.out) I.out.2.1).mono ?_
      rintro e w5 ⟨rfl, hb5⟩
      have B5 : Hid (Below w2.heap.size w2 w5) := B4.out.trans (hb5.mono B4.out.size)
      clear hb5
      go_wp2_with fail
      refine (get36 n a0 a1 a2 a3 _ ((S1.out.2.2.1.below S2.out.1).below B5.out)).mono ?_
      rintro e _ ⟨rfl, rfl⟩
      go_wp2
      go_ret
      exact ⟨by simp, B2.out.trans (B5.out.mono B2.out.size)⟩
end Go.Proofs.Qxb6616928a
