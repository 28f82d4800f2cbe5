import Derived.Test.Qxb6616928aBase
namespace Go.Proofs.Qxb6616928a
open Go.RowKit

theorem bit63 (x : Int) (h0 : 0 ≤ x) (h1 : x < 1073741824) : bits .and .u64 x 9223372036854775808 = 0 := by
  rw [u64_and x _ h0 (by omega) (by decide) (by decide)]
  have e : x.toNat &&& (9223372036854775808 : Int).toNat = 0 := by
    have := nat_bit 63 x.toNat
    rw [show ((9223372036854775808 : Int).toNat) = 2 ^ 63 by decide, this, Nat.div_eq_of_lt (by omega)]
  rw [e]; rfl
theorem low30 (x : Int) (h0 : 0 ≤ x) (h1 : x < 1073741824) : bits .and .u64 x 1073741823 = x := by
  rw [u64_and x _ h0 (by omega) (by decide) (by decide)]
  have e : x.toNat &&& (1073741823 : Int).toNat = x.toNat := by
    rw [show ((1073741823 : Int).toNat) = 2 ^ 30 - 1 by decide, Nat.and_two_pow_sub_one_eq_mod, Nat.mod_eq_of_lt (by omega)]
  rw [e]; omega
theorem high30 (x : Int) (h0 : 0 ≤ x) (h1 : x < 1073741824) : bits .andNot .u64 x 1073741823 = 0 := by
  rw [u64_andNot x _ h0 (by omega) (by decide) (by decide)]
  have e : x.toNat &&& (18446744073709551615 - (1073741823 : Int).toNat) = 0 := by
    apply Nat.eq_of_testBit_eq
    intro i
    rw [Nat.testBit_and, Nat.zero_testBit]
    by_cases hi : i < 30
    · have : Nat.testBit (18446744073709551615 - (1073741823 : Int).toNat) i = false := by
        rw [show 18446744073709551615 - (1073741823 : Int).toNat = (2 ^ 34 - 1) <<< 30 by decide, Nat.testBit_shiftLeft]
        simp; omega
      rw [this]; simp
    · have : Nat.testBit x.toNat i = false := Nat.testBit_lt_two_pow (Nat.lt_of_lt_of_le (by omega : x.toNat < 2 ^ 30) (Nat.pow_le_pow_right (by decide) (by omega)))
      rw [this]; simp
  rw [e]; rfl
theorem or0 (x : Int) (h0 : 0 ≤ x) (h1 : x < 1073741824) : bits .or .u64 0 x = x := by
  rw [u64_or 0 x (by decide) (by decide) h0 (by omega)]
  simp; omega

/-- What comes back is the time of x nanoseconds within y seconds (no monotonic reading, no location); nothing that was there has turned. -/
def TimeOut (w : World) (x y : Int) (e : Ending) (w' : World) : Prop := e = .returned (.agg #[.int .u64 x, .int .i64 y, .pointer none]) ∧ Below w.heap.size w w'

theorem two_below (w : World) (o1 o2 : Obj) : Below w.heap.size w ((w.alloc o1).alloc o2) := ((Below.refl _ _).alloc (Nat.le_refl _) _).alloc (by simp) _

set_option maxHeartbeats 1000000 in
theorem add_mid (x y d q m : Int) (w : World) (hx0 : 0 ≤ x) (hx1 : x < 1000000000) (hy0 : -1000000000000 ≤ y) (hy1 : y ≤ 1000000000000) (hq : d.tdiv 1000000000 = q) (hm : d.tmod 1000000000 = m)
    (hq0 : -10000000000 ≤ q) (hq1 : q ≤ 10000000000) (hn0 : 0 ≤ x + m) (hn1 : x + m < 1000000000) (hm0 : -1000000000 < m) (hm1 : m < 1000000000) :
    Calls Try.prog 54 #[.agg #[.int .u64 x, .int .i64 y, .pointer none], .int .i64 d] w (TimeOut w (x + m) (y + q)) := by
  have b1 := bit63 x hx0 (by omega)
  have b2 := low30 x hx0 (by omega)
  have b3 := high30 x hx0 (by omega)
  have b4 := or0 (x + m) hn0 (by omega)
  have b5 := bit63 (x + m) hn0 (by omega)
  have hS : (decide (y < y + q) == decide (0 < q)) = true := by
    have : decide (y < y + q) = decide (0 < q) := by rw [decide_eq_decide]; omega
    rw [this]; simp
  go_enter Try.func54, Try.ntmps54
  go_wp2
  exact bodyPost_ret (v := .agg #[.int .u64 (x + m), .int .i64 (y + q), .pointer none]) (by simp [results, Try.results54, go_sem]) rfl ⟨rfl, two_below _ _ _⟩

set_option maxHeartbeats 1000000 in
theorem add_hi (x y d q m : Int) (w : World) (hx0 : 0 ≤ x) (hx1 : x < 1000000000) (hy0 : -1000000000000 ≤ y) (hy1 : y ≤ 1000000000000) (hq : d.tdiv 1000000000 = q) (hm : d.tmod 1000000000 = m)
    (hq0 : -10000000000 ≤ q) (hq1 : q ≤ 10000000000) (hn0 : 1000000000 ≤ x + m) (hm0 : -1000000000 < m) (hm1 : m < 1000000000) :
    Calls Try.prog 54 #[.agg #[.int .u64 x, .int .i64 y, .pointer none], .int .i64 d] w (TimeOut w (x + m - 1000000000) (y + (q + 1))) := by
  have b1 := bit63 x hx0 (by omega)
  have b2 := low30 x hx0 (by omega)
  have b3 := high30 x hx0 (by omega)
  have b4 := or0 (x + m - 1000000000) (by omega) (by omega)
  have b5 := bit63 (x + m - 1000000000) (by omega) (by omega)
  have hS : (decide (y < y + (q + 1)) == decide (0 < q + 1)) = true := by
    have : decide (y < y + (q + 1)) = decide (0 < q + 1) := by rw [decide_eq_decide]; omega
    rw [this]; simp
  go_enter Try.func54, Try.ntmps54
  go_wp2
  exact bodyPost_ret (v := .agg #[.int .u64 (x + m - 1000000000), .int .i64 (y + (q + 1)), .pointer none]) (by simp [results, Try.results54, go_sem]) rfl ⟨rfl, two_below _ _ _⟩

set_option maxHeartbeats 1000000 in
theorem add_lo (x y d q m : Int) (w : World) (hx0 : 0 ≤ x) (hx1 : x < 1000000000) (hy0 : -1000000000000 ≤ y) (hy1 : y ≤ 1000000000000) (hq : d.tdiv 1000000000 = q) (hm : d.tmod 1000000000 = m)
    (hq0 : -10000000000 ≤ q) (hq1 : q ≤ 10000000000) (hn0 : x + m < 0) (hm0 : -1000000000 < m) (hm1 : m < 1000000000) :
    Calls Try.prog 54 #[.agg #[.int .u64 x, .int .i64 y, .pointer none], .int .i64 d] w (TimeOut w (x + m + 1000000000) (y + (q - 1))) := by
  have b1 := bit63 x hx0 (by omega)
  have b2 := low30 x hx0 (by omega)
  have b3 := high30 x hx0 (by omega)
  have b4 := or0 (x + m + 1000000000) (by omega) (by omega)
  have b5 := bit63 (x + m + 1000000000) (by omega) (by omega)
  have hS : (decide (y < y + (q - 1)) == decide (1 < q)) = true := by
    have : decide (y < y + (q - 1)) = decide (1 < q) := by rw [decide_eq_decide]; omega
    rw [this]; simp
  go_enter Try.func54, Try.ntmps54
  go_wp2
  exact bodyPost_ret (v := .agg #[.int .u64 (x + m + 1000000000), .int .i64 (y + (q - 1)), .pointer none]) (by simp [results, Try.results54, go_sem]) rfl ⟨rfl, two_below _ _ _⟩

/-- (time.Time).Add: z is the sum in nanoseconds. -/
theorem add54 (x y d z : Int) (w : World) (hx0 : 0 ≤ x) (hx1 : x < 1000000000) (hy0 : -1000000000000 ≤ y) (hy1 : y ≤ 1000000000000) (hd0 : -9223372036854775808 ≤ d) (hd1 : d ≤ 9223372036854775807) (hz : z = y * 1000000000 + x + d) :
    Calls Try.prog 54 #[.agg #[.int .u64 x, .int .i64 y, .pointer none], .int .i64 d] w (TimeOut w (z % 1000000000) (z / 1000000000)) := by
  obtain ⟨q, hq⟩ : ∃ q, d.tdiv 1000000000 = q := ⟨_, rfl⟩
  obtain ⟨m, hm⟩ : ∃ m, d.tmod 1000000000 = m := ⟨_, rfl⟩
  have e : 1000000000 * q + m = d := by rw [← hq, ← hm]; exact Int.mul_tdiv_add_tmod d 1000000000
  have hm1 : m < 1000000000 := by rw [← hm]; exact Int.tmod_lt_of_pos d (by decide)
  have hm0 : -1000000000 < m := by rw [← hm]; have := Int.lt_tmod_of_pos d (b := 1000000000) (by decide); omega
  by_cases h1 : 1000000000 ≤ x + m
  · have e1 : z % 1000000000 = x + m - 1000000000 := by omega
    have e2 : z / 1000000000 = y + (q + 1) := by omega
    rw [e1, e2]
    exact add_hi x y d q m w hx0 hx1 hy0 hy1 hq hm (by omega) (by omega) h1 hm0 hm1
  · by_cases h2 : x + m < 0
    · have e1 : z % 1000000000 = x + m + 1000000000 := by omega
      have e2 : z / 1000000000 = y + (q - 1) := by omega
      rw [e1, e2]
      exact add_lo x y d q m w hx0 hx1 hy0 hy1 hq hm (by omega) (by omega) h2 hm0 hm1
    · have e1 : z % 1000000000 = x + m := by omega
      have e2 : z / 1000000000 = y + q := by omega
      rw [e1, e2]
      exact add_mid x y d q m w hx0 hx1 hy0 hy1 hq hm (by omega) (by omega) (by omega) (by omega) hm0 hm1

/-- The result slot of a function that returns a time, behind a call. -/
theorem time_slot {w w1 : World} {a b c : Value} (hb : Below (w.alloc (.cells #[a, b, c] 72)).heap.size (w.alloc (.cells #[a, b, c] 72)) w1) :
    w1.cell? ⟨w.heap.size, 0, none⟩ = some a ∧ w1.cell? ⟨w.heap.size, 1, none⟩ = some b ∧ w1.cell? ⟨w.heap.size, 2, none⟩ = some c ∧
    w1.frozen? ⟨w.heap.size, 0, none⟩ = false ∧ w1.frozen? ⟨w.heap.size, 1, none⟩ = false ∧ w1.frozen? ⟨w.heap.size, 2, none⟩ = false ∧ w.heap.size < w1.heap.size ∧ Below w.heap.size w w1 := by
  have hz := hb.size
  simp only [World.size_alloc] at hz hb
  have hl : w.heap.size < w.heap.size + 1 := Nat.lt_succ_self _
  refine ⟨?_, ?_, ?_, ?_, ?_, ?_, by omega, ((Below.refl _ _).alloc (Nat.le_refl _) _).trans (hb.mono (Nat.le_succ _))⟩
  · rw [hb.cell (p := ⟨w.heap.size, 0, none⟩) hl]; simp
  · rw [hb.cell (p := ⟨w.heap.size, 1, none⟩) hl]; simp
  · rw [hb.cell (p := ⟨w.heap.size, 2, none⟩) hl]; simp
  · rw [hb.frozen (p := ⟨w.heap.size, 0, none⟩) hl]; simp
  · rw [hb.frozen (p := ⟨w.heap.size, 1, none⟩) hl]; simp
  · rw [hb.frozen (p := ⟨w.heap.size, 2, none⟩) hl]; simp

set_option maxHeartbeats 1000000 in
theorem at47 (d : Int) (w : World) (hd0 : -9223372036854775808 ≤ d) (hd1 : d ≤ 9223372036854775807) :
    Calls Try.prog 47 #[.int .i64 d] w (TimeOut w (d % 1000000000) (d / 1000000000)) := by
  go_enter Try.func47, Try.ntmps47
  go_wp2_with fail
  refine (add54 0 0 d d _ (by omega) (by omega) (by omega) (by omega) hd0 hd1 (by omega)).mono ?_
  rintro e w1 ⟨rfl, hb⟩
  obtain ⟨c0, c1, c2, f0, f1, f2, hz, hbw⟩ := time_slot hb
  have HB : Hid (Below w.heap.size w w1) := hbw
  clear hb hbw
  go_wp2
  exact bodyPost_ret (v := .agg #[.int .u64 (d % 1000000000), .int .i64 (d / 1000000000), .pointer none]) (by simp [results, Try.results47, go_sem, c0, c1, c2]) rfl ⟨rfl, ((HB.out.setCell (by simp) _).setCell (by simp) _).setCell (by simp) _⟩
end Go.Proofs.Qxb6616928a
