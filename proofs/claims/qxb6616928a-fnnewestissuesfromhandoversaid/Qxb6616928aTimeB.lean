import Derived.Test.Qxb6616928aTime
import Derived.Deep.RegionWith
namespace Go.Proofs.Qxb6616928a
open Go.RowKit

theorem and_small (x1 x2 : Int) (h0 : 0 ≤ x1) (h1 : x1 < 1073741824) (g0 : 0 ≤ x2) (g1 : x2 < 1073741824) : ∃ z, bits .and .u64 x1 x2 = z ∧ 0 ≤ z ∧ z < 1073741824 := by
  refine ⟨_, rfl, ?_⟩
  rw [u64_and x1 x2 h0 (by omega) g0 (by omega)]
  have := @Nat.and_le_left x1.toNat x2.toNat
  omega

/-- What comes back is the bool b; nothing that was there has turned. -/
def BoolOut (b : Bool) (w : World) (e : Ending) (w' : World) : Prop := e = .returned (.bool b) ∧ Below w.heap.size w w'

/-- Is the one time before the other? In nanoseconds. -/
def beforeB (x1 y1 x2 y2 : Int) : Bool := decide (y1 * 1000000000 + x1 < y2 * 1000000000 + x2)

set_option maxHeartbeats 1000000 in
theorem before55 (x1 y1 x2 y2 : Int) (w : World) (hx0 : 0 ≤ x1) (hx1 : x1 < 1000000000) (hz0 : 0 ≤ x2) (hz1 : x2 < 1000000000) :
    Calls Try.prog 55 #[.agg #[.int .u64 x1, .int .i64 y1, .pointer none], .agg #[.int .u64 x2, .int .i64 y2, .pointer none]] w (BoolOut (beforeB x1 y1 x2 y2) w) := by
  obtain ⟨z, hz, z0, z1⟩ := and_small x1 x2 hx0 (by omega) hz0 (by omega)
  have a1 := bit63 x1 hx0 (by omega)
  have a2 := bit63 x2 hz0 (by omega)
  have a3 := bit63 z z0 (by omega)
  have b1 := low30 x1 hx0 (by omega)
  have b2 := low30 x2 hz0 (by omega)
  by_cases h1 : y1 < y2
  · have E : Hid (beforeB x1 y1 x2 y2 = true) := by unfold Hid beforeB; exact decide_eq_true (by omega)
    go_enter Try.func55, Try.ntmps55
    go_wp2
    go_ret
    exact ⟨by show Ending.returned (.bool true) = _; rw [E.out], two_below _ _ _⟩
  · by_cases h2 : y1 = y2
    · subst h2
      have hE : (y1 == y1) = true := by simp
      by_cases h3 : x1 < x2
      · have E : Hid (beforeB x1 y1 x2 y1 = true) := by unfold Hid beforeB; exact decide_eq_true (by omega)
        go_enter Try.func55, Try.ntmps55
        go_wp2
        go_ret
        exact ⟨by show Ending.returned (.bool true) = _; rw [E.out], two_below _ _ _⟩
      · have E : Hid (beforeB x1 y1 x2 y1 = false) := by unfold Hid beforeB; exact decide_eq_false (by omega)
        go_enter Try.func55, Try.ntmps55
        go_wp2
        go_ret
        exact ⟨by show Ending.returned (.bool false) = _; rw [E.out], two_below _ _ _⟩
    · have E : Hid (beforeB x1 y1 x2 y2 = false) := by unfold Hid beforeB; exact decide_eq_false (by omega)
      have hE : (y1 == y2) = false := by simp; omega
      go_enter Try.func55, Try.ntmps55
      go_wp2
      go_ret
      exact ⟨by show Ending.returned (.bool false) = _; rw [E.out], two_below _ _ _⟩

set_option maxHeartbeats 1000000 in
theorem equal62 (x y : Int) (w : World) (hx0 : 0 ≤ x) (hx1 : x < 1000000000) :
    Calls Try.prog 62 #[.agg #[.int .u64 x, .int .i64 y, .pointer none], .agg #[.int .u64 x, .int .i64 y, .pointer none]] w (BoolOut true w) := by
  obtain ⟨z, hz, z0, z1⟩ := and_small x x hx0 (by omega) hx0 (by omega)
  have a1 := bit63 x hx0 (by omega)
  have a3 := bit63 z z0 (by omega)
  have b1 := low30 x hx0 (by omega)
  have hE : (y == y) = true := by simp
  have hX : (x == x) = true := by simp
  go_enter Try.func62, Try.ntmps62
  go_wp2
  go_ret
  exact ⟨rfl, two_below _ _ _⟩

theorem add_zero54 (x y z : Int) (w : World) (hx0 : 0 ≤ x) (hx1 : x < 1000000000) (hz : z = y * 1000000000 + x) (hd0 : -9223372036854775808 ≤ z) (hd1 : z ≤ 9223372036854775807) :
    Calls Try.prog 54 #[.agg #[.int .u64 0, .int .i64 0, .pointer none], .int .i64 z] w (TimeOut w x y) := by
  have := add54 0 0 z z w (by omega) (by omega) (by omega) (by omega) hd0 hd1 (by omega)
  rwa [show z % 1000000000 = x by omega, show z / 1000000000 = y by omega] at this

/-- What comes back is the int z; nothing that was there has turned. -/
def IntOut (z : Int) (w : World) (e : Ending) (w' : World) : Prop := e = .returned (.int .i64 z) ∧ Below w.heap.size w w'

/-- The boxes of a function's two times, behind calls. -/
def Boxes (w : World) (x y : Int) (w1 : World) : Prop :=
  Below w.heap.size w w1 ∧ w.heap.size + 1 < w1.heap.size ∧ w1.cell? ⟨w.heap.size, 0, none⟩ = some (.int .u64 x) ∧ w1.cell? ⟨w.heap.size, 1, none⟩ = some (.int .i64 y) ∧ w1.cell? ⟨w.heap.size, 2, none⟩ = some (.pointer none)
theorem Boxes.start (w : World) (x y : Int) (o : Obj) : Boxes w x y ((w.alloc (.cells #[.int .u64 x, .int .i64 y, .pointer none] 72)).alloc o).drew := by
  refine ⟨(two_below _ _ _).drew, by simp, ?_, ?_, ?_⟩
  · show ((w.alloc (.cells #[.int .u64 x, .int .i64 y, .pointer none] 72)).alloc o).cell? _ = _; simp
  · show ((w.alloc (.cells #[.int .u64 x, .int .i64 y, .pointer none] 72)).alloc o).cell? _ = _; simp
  · show ((w.alloc (.cells #[.int .u64 x, .int .i64 y, .pointer none] 72)).alloc o).cell? _ = _; simp
theorem Boxes.next {w w1 w2 : World} {x y : Int} (h : Boxes w x y w1) (hb : Below w1.heap.size w1 w2) : Boxes w x y w2 := by
  obtain ⟨h1, h2, h3, h4, h5⟩ := h
  have hl : w.heap.size < w1.heap.size := by omega
  exact ⟨h1.trans (hb.mono h1.size), Nat.lt_of_lt_of_le h2 hb.size, by rw [hb.cell (p := ⟨w.heap.size, 0, none⟩) hl]; exact h3, by rw [hb.cell (p := ⟨w.heap.size, 1, none⟩) hl]; exact h4, by rw [hb.cell (p := ⟨w.heap.size, 2, none⟩) hl]; exact h5⟩

set_option maxRecDepth 100000 in
set_option maxHeartbeats 2000000 in
theorem sub52 (x y z : Int) (w : World) (hx0 : 0 ≤ x) (hx1 : x < 1000000000) (hz : z = y * 1000000000 + x) (hd0 : -9000000000000000000 ≤ z) (hd1 : z ≤ 9000000000000000000) :
    Calls Try.prog 52 #[.agg #[.int .u64 x, .int .i64 y, .pointer none], .agg #[.int .u64 0, .int .i64 0, .pointer none]] w (IntOut z w) := by
  obtain ⟨z', hz', z0, z1⟩ := and_small x 0 hx0 (by omega) (by omega) (by omega)
  have a1 := bit63 x hx0 (by omega)
  have a2 := bit63 0 (by omega) (by omega)
  have a3 := bit63 z' z0 (by omega)
  have b1 := low30 x hx0 (by omega)
  have b2 := low30 0 (by omega) (by omega)
  have HZ : Hid (z = y * 1000000000 + x) := hz
  have hz2 : y * 1000000000 + x = z := hz.symm
  have w0 : -9100000000000000000 ≤ y * 1000000000 := by omega
  have w1' : y * 1000000000 ≤ 9100000000000000000 := by omega
  clear hz
  go_enter Try.func52, Try.ntmps52
  go_wp2
  go_region_with (first | (go_at_call 54; refine (add_zero54 x y z _ hx0 hx1 HZ.out (by omega) (by omega)).mono ?_; rintro e w3 ⟨rfl, hb3⟩; have B3 := (Boxes.start w x y _).next hb3; obtain ⟨q1, q2, q3, q4, q5⟩ := B3) | (go_at_call 62; refine (equal62 x y _ hx0 hx1).mono ?_; rintro e w4 ⟨rfl, hb4⟩))
  all_goals
    have FIN : Hid (Below w.heap.size w w4) := q1.trans (hb4.mono q1.size)
    clear hb3 hb4 q1 q2 q3 q4 q5
    go_wp2
    go_ret
    exact ⟨rfl, FIN.out⟩
end Go.Proofs.Qxb6616928a
