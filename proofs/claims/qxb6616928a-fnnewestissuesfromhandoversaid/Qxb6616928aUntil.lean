import Derived.Test.Qxb6616928aBeforeAt
namespace Go.Proofs.Qxb6616928a
open Go.RowKit

set_option maxHeartbeats 1000000 in
theorem after63 (x1 y1 x2 y2 : Int) (w : World) (hx0 : 0 ≤ x1) (hx1 : x1 < 1000000000) (hz0 : 0 ≤ x2) (hz1 : x2 < 1000000000) :
    Calls Try.prog 63 #[.agg #[.int .u64 x1, .int .i64 y1, .pointer none], .agg #[.int .u64 x2, .int .i64 y2, .pointer none]] w (BoolOut (beforeB x2 y2 x1 y1) w) := by
  obtain ⟨z, hz, z0, z1⟩ := and_small x1 x2 hx0 (by omega) hz0 (by omega)
  have a1 := bit63 x1 hx0 (by omega)
  have a2 := bit63 x2 hz0 (by omega)
  have a3 := bit63 z z0 (by omega)
  have b1 := low30 x1 hx0 (by omega)
  have b2 := low30 x2 hz0 (by omega)
  by_cases h1 : y2 < y1
  · have E : Hid (beforeB x2 y2 x1 y1 = true) := by unfold Hid beforeB; exact decide_eq_true (by omega)
    go_enter Try.func63, Try.ntmps63
    go_wp2
    go_ret
    exact ⟨by show Ending.returned (.bool true) = _; rw [E.out], two_below _ _ _⟩
  · by_cases h2 : y1 = y2
    · subst h2
      have hE : (y1 == y1) = true := by simp
      by_cases h3 : x2 < x1
      · have E : Hid (beforeB x2 y1 x1 y1 = true) := by unfold Hid beforeB; exact decide_eq_true (by omega)
        go_enter Try.func63, Try.ntmps63
        go_wp2
        go_ret
        exact ⟨by show Ending.returned (.bool true) = _; rw [E.out], two_below _ _ _⟩
      · have E : Hid (beforeB x2 y1 x1 y1 = false) := by unfold Hid beforeB; exact decide_eq_false (by omega)
        go_enter Try.func63, Try.ntmps63
        go_wp2
        go_ret
        exact ⟨by show Ending.returned (.bool false) = _; rw [E.out], two_below _ _ _⟩
    · have E : Hid (beforeB x2 y2 x1 y1 = false) := by unfold Hid beforeB; exact decide_eq_false (by omega)
      have hE : (y1 == y2) = false := by simp; omega
      go_enter Try.func63, Try.ntmps63
      go_wp2
      go_ret
      exact ⟨by show Ending.returned (.bool false) = _; rw [E.out], two_below _ _ _⟩

/-- Behind a call: the three cells of the block that was laid second to last before it, and those of the last. -/
theorem slot33 {w w1 : World} {a b c a' b' c' : Value} {t t' : TypeId} (hb : Below ((w.alloc (.cells #[a, b, c] t)).alloc (.cells #[a', b', c'] t')).drew.heap.size ((w.alloc (.cells #[a, b, c] t)).alloc (.cells #[a', b', c'] t')).drew w1) :
    (w1.cell? ⟨w.heap.size, 0, none⟩ = some a ∧ w1.cell? ⟨w.heap.size, 1, none⟩ = some b ∧ w1.cell? ⟨w.heap.size, 2, none⟩ = some c) ∧
    (w1.cell? ⟨w.heap.size + 1, 0, none⟩ = some a' ∧ w1.cell? ⟨w.heap.size + 1, 1, none⟩ = some b' ∧ w1.cell? ⟨w.heap.size + 1, 2, none⟩ = some c') ∧
    (w1.frozen? ⟨w.heap.size + 1, 0, none⟩ = false ∧ w1.frozen? ⟨w.heap.size + 1, 1, none⟩ = false ∧ w1.frozen? ⟨w.heap.size + 1, 2, none⟩ = false) ∧ w.heap.size + 1 < w1.heap.size ∧ Below w.heap.size w w1 := by
  have hz := hb.size
  have e : ((w.alloc (.cells #[a, b, c] t)).alloc (.cells #[a', b', c'] t')).drew.heap.size = w.heap.size + 2 := by simp
  rw [e] at hz hb
  have hl : w.heap.size < w.heap.size + 2 := by omega
  have hl' : w.heap.size + 1 < w.heap.size + 2 := by omega
  refine ⟨⟨?_, ?_, ?_⟩, ⟨?_, ?_, ?_⟩, ⟨?_, ?_, ?_⟩, by omega, (two_below _ _ _).drew.trans (hb.mono (by omega))⟩
  · rw [hb.cell (p := ⟨w.heap.size, 0, none⟩) hl]; show World.cell? ((w.alloc _).alloc _) _ = _; simp
  · rw [hb.cell (p := ⟨w.heap.size, 1, none⟩) hl]; show World.cell? ((w.alloc _).alloc _) _ = _; simp
  · rw [hb.cell (p := ⟨w.heap.size, 2, none⟩) hl]; show World.cell? ((w.alloc _).alloc _) _ = _; simp
  · rw [hb.cell (p := ⟨w.heap.size + 1, 0, none⟩) hl']; show World.cell? ((w.alloc _).alloc _) _ = _; simp
  · rw [hb.cell (p := ⟨w.heap.size + 1, 1, none⟩) hl']; show World.cell? ((w.alloc _).alloc _) _ = _; simp
  · rw [hb.cell (p := ⟨w.heap.size + 1, 2, none⟩) hl']; show World.cell? ((w.alloc _).alloc _) _ = _; simp
  · rw [hb.frozen (p := ⟨w.heap.size + 1, 0, none⟩) hl']; show World.frozen? ((w.alloc _).alloc _) _ = _; simp
  · rw [hb.frozen (p := ⟨w.heap.size + 1, 1, none⟩) hl']; show World.frozen? ((w.alloc _).alloc _) _ = _; simp
  · rw [hb.frozen (p := ⟨w.heap.size + 1, 2, none⟩) hl']; show World.frozen? ((w.alloc _).alloc _) _ = _; simp

attribute [local go_sem ↓] Go.wp_at_zero Go.wp_at_succ

set_option maxRecDepth 100000 in
set_option maxHeartbeats 4000000 in
theorem until53 (c : Nat) (g nb na : Int) (crl : ByteArray) (x y : Int) (w : World) (hx0 : 0 ≤ x) (hx1 : x < 1000000000) (hb : CAIs w c g nb na crl) (r : Bool) (hr : beforeB (na % 1000000000) (na / 1000000000) x y = r) :
    Calls Try.prog 53 #[.pointer (some ⟨c, 0, none⟩), .agg #[.int .u64 x, .int .i64 y, .pointer none]] w (TimeOut w (if r then na % 1000000000 else x) (if r then na / 1000000000 else y)) := by
  obtain ⟨k, ⟨hcl, _, b1, _⟩, ⟨hkl, _, _, _, t1, t2, t3⟩⟩ := hb
  obtain ⟨x2, hx2⟩ : ∃ x, x = na % 1000000000 := ⟨_, rfl⟩
  obtain ⟨y2, hy2⟩ : ∃ y, y = na / 1000000000 := ⟨_, rfl⟩
  rw [← hx2] at t1 hr
  rw [← hy2] at t2 hr
  rw [← hx2, ← hy2]
  have HC : Hid (∀ w, Calls Try.prog 63 #[.agg #[.int .u64 x, .int .i64 y, .pointer none], .agg #[.int .u64 x2, .int .i64 y2, .pointer none]] w (BoolOut r w)) := fun w => by rw [← hr]; exact after63 x y x2 y2 w hx0 hx1 (by omega) (by omega)
  clear hx2 hy2 hr hx0 hx1
  cases r with
  | true =>
    go_enter Try.func53, Try.ntmps53
    go_wp2
    go_region_with ((go_at_call 63; refine (HC.out _).mono ?_; rintro e w1 ⟨rfl, hb1⟩))
    all_goals
      obtain ⟨⟨p0, p1, p2⟩, ⟨p3, p4, p5⟩, ⟨f3, f4, f5⟩, hz, A⟩ := slot33 hb1
      have u1 : w1.cell? ⟨c, 1, none⟩ = some (.pointer (some ⟨k, 0, none⟩)) := by rw [A.cell (p := ⟨c, 1, none⟩) hcl]; exact b1
      have u2 : w1.cell? ⟨k, 37, none⟩ = some (.int .u64 x2) := by rw [A.cell (p := ⟨k, 37, none⟩) hkl]; exact t1
      have u3 : w1.cell? ⟨k, 38, none⟩ = some (.int .i64 y2) := by rw [A.cell (p := ⟨k, 38, none⟩) hkl]; exact t2
      have u4 : w1.cell? ⟨k, 39, none⟩ = some (.pointer none) := by rw [A.cell (p := ⟨k, 39, none⟩) hkl]; exact t3
      have HA : Hid (Below w.heap.size w w1) := A
      clear A hb1
      go_wp2
      exact bodyPost_ret (v := .agg #[.int .u64 x2, .int .i64 y2, .pointer none]) (by simp [results, Try.results53, go_sem, p3, p4, p5]) rfl ⟨rfl, ((HA.out.setCell (by simp) _).setCell (by simp) _).setCell (by simp) _⟩
  | false =>
    go_enter Try.func53, Try.ntmps53
    go_wp2
    go_region_with ((go_at_call 63; refine (HC.out _).mono ?_; rintro e w1 ⟨rfl, hb1⟩))
    all_goals
      obtain ⟨⟨p0, p1, p2⟩, ⟨p3, p4, p5⟩, ⟨f3, f4, f5⟩, hz, A⟩ := slot33 hb1
      have u1 : w1.cell? ⟨c, 1, none⟩ = some (.pointer (some ⟨k, 0, none⟩)) := by rw [A.cell (p := ⟨c, 1, none⟩) hcl]; exact b1
      have u2 : w1.cell? ⟨k, 37, none⟩ = some (.int .u64 x2) := by rw [A.cell (p := ⟨k, 37, none⟩) hkl]; exact t1
      have u3 : w1.cell? ⟨k, 38, none⟩ = some (.int .i64 y2) := by rw [A.cell (p := ⟨k, 38, none⟩) hkl]; exact t2
      have u4 : w1.cell? ⟨k, 39, none⟩ = some (.pointer none) := by rw [A.cell (p := ⟨k, 39, none⟩) hkl]; exact t3
      have HA : Hid (Below w.heap.size w w1) := A
      clear A hb1
      go_wp2
      exact bodyPost_ret (v := .agg #[.int .u64 x, .int .i64 y, .pointer none]) (by simp [results, Try.results53, go_sem, p3, p4, p5]) rfl ⟨rfl, ((HA.out.setCell (by simp) _).setCell (by simp) _).setCell (by simp) _⟩

/-- In nanoseconds: the sooner of z and the CA's end. -/
theorem until_ns (c : Nat) (g nb na : Int) (crl : ByteArray) (z : Int) (w : World) (hb : CAIs w c g nb na crl) (r : Int) (hr : r = if na < z then na else z) :
    Calls Try.prog 53 #[.pointer (some ⟨c, 0, none⟩), .agg #[.int .u64 (z % 1000000000), .int .i64 (z / 1000000000), .pointer none]] w (TimeOut w (r % 1000000000) (r / 1000000000)) := by
  have h := until53 c g nb na crl (z % 1000000000) (z / 1000000000) w (by omega) (by omega) hb _ rfl
  rw [beforeB_ns] at h
  by_cases hlt : na < z
  · rw [if_pos hlt] at hr
    rw [decide_eq_true hlt] at h
    subst hr
    exact h
  · rw [if_neg hlt] at hr
    rw [decide_eq_false hlt] at h
    subst hr
    exact h
end Go.Proofs.Qxb6616928a
