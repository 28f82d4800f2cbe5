import Derived.Test.Qxb6616928aPtr
import Derived.Deep.QuietTactic
import Derived.BigQuiet
import Derived.Deep.RegionWith
import Derived.Deep.DrawnRows
namespace Go.Proofs.Qxb6616928a
open Go.RowKit

/-- What comes back is the value v; nothing that was there has turned. -/
def ValOut (v : Value) (w : World) (e : Ending) (w' : World) : Prop := e = .returned v ∧ Below w.heap.size w w'

theorem beforeB_ns (a b : Int) : beforeB (a % 1000000000) (a / 1000000000) (b % 1000000000) (b / 1000000000) = decide (a < b) := by
  unfold beforeB
  rw [decide_eq_decide]
  omega

set_option maxHeartbeats 2000000 in
theorem beforeAt50_nil (s n : Nat) (x y : Int) (w : World) (hs : SetT w s n (.pointer none)) :
    Calls Try.prog 50 #[.pointer (some ⟨s, 0, none⟩), .agg #[.int .u64 x, .int .i64 y, .pointer none]] w (ValOut (.pointer none) w) := by
  obtain ⟨hsl, s0, s1, s2⟩ := hs
  go_enter Try.func50, Try.ntmps50
  go_wp2
  go_quiet (fail)
  go_wp2
  go_ret
  exact ⟨rfl, below_drewN ((Below.refl _ _).alloc (Nat.le_refl _) _) _⟩

attribute [local go_sem ↓] Go.wp_at_zero Go.wp_at_succ

theorem after_box {w w1 : World} {o : Obj} (hb : Below (w.alloc o).drew.heap.size (w.alloc o).drew w1) : Below w.heap.size w w1 :=
  (((Below.refl _ _).alloc (Nat.le_refl _) o).drew).trans (hb.mono (by simp))

set_option maxRecDepth 100000 in
set_option maxHeartbeats 4000000 in
theorem beforeAt50_yes (s n b : Nat) (x y g nb na : Int) (crl : ByteArray) (w : World) (hx0 : 0 ≤ x) (hx1 : x < 1000000000) (hs : SetT w s n (.pointer (some ⟨b, 0, none⟩))) (hb : CAIs w b g nb na crl) (r : Bool) (hr : beforeB x y (na % 1000000000) (na / 1000000000) = r) :
    Calls Try.prog 50 #[.pointer (some ⟨s, 0, none⟩), .agg #[.int .u64 x, .int .i64 y, .pointer none]] w (ValOut (if r then .pointer (some ⟨b, 0, none⟩) else .pointer none) w) := by
  obtain ⟨hsl, s0, s1, s2⟩ := hs
  obtain ⟨k, ⟨hbl, _, b1, _⟩, ⟨hkl, _, _, _, t1, t2, t3⟩⟩ := hb
  obtain ⟨x2, hx2⟩ : ∃ x, x = na % 1000000000 := ⟨_, rfl⟩
  obtain ⟨y2, hy2⟩ : ∃ y, y = na / 1000000000 := ⟨_, rfl⟩
  rw [← hx2] at t1 hr
  rw [← hy2] at t2 hr
  have HC : Hid (∀ w, Calls Try.prog 55 #[.agg #[.int .u64 x, .int .i64 y, .pointer none], .agg #[.int .u64 x2, .int .i64 y2, .pointer none]] w (BoolOut r w)) := fun w => by rw [← hr]; exact before55 x y x2 y2 w hx0 hx1 (by omega) (by omega)
  clear hx2 hy2 hr hx0 hx1
  cases r with
  | true =>
    go_enter Try.func50, Try.ntmps50
    go_wp2
    go_region_with ((go_at_call 55; refine (HC.out _).mono ?_; rintro e w1 ⟨rfl, hb1⟩))
    all_goals
      have A := after_box hb1
      have q1 : w1.cell? ⟨s, 1, none⟩ = some (.pointer (some ⟨b, 0, none⟩)) := by rw [A.cell (p := ⟨s, 1, none⟩) hsl]; exact s1
      have HA : Hid (Below w.heap.size w w1) := A
      clear A hb1
      go_wp2
      go_ret
      exact ⟨rfl, HA.out⟩
  | false =>
    go_enter Try.func50, Try.ntmps50
    go_wp2
    go_region_with ((go_at_call 55; refine (HC.out _).mono ?_; rintro e w1 ⟨rfl, hb1⟩))
    all_goals
      have A := after_box hb1
      have q1 : w1.cell? ⟨s, 1, none⟩ = some (.pointer (some ⟨b, 0, none⟩)) := by rw [A.cell (p := ⟨s, 1, none⟩) hsl]; exact s1
      have HA : Hid (Below w.heap.size w w1) := A
      clear A hb1
      go_wp2
      go_ret
      exact ⟨rfl, HA.out⟩

set_option maxHeartbeats 1000000 in
theorem beforeAt40_nil (s n : Nat) (now : Int) (w : World) (hs : SetT w s n (.pointer none)) (hn : inNs now) :
    Calls Try.prog 40 #[.pointer (some ⟨s, 0, none⟩), .int .i64 now] w (ValOut (.pointer none) w) := by
  have HS : Hid (SetT w s n (.pointer none)) := hs
  have HT : Hid (∀ w, Calls Try.prog 47 #[.int .i64 now] w (TimeOut w (now % 1000000000) (now / 1000000000))) := fun w => at47 now w (by unfold inNs at hn; omega) (by unfold inNs at hn; omega)
  clear hs hn
  go_enter Try.func40, Try.ntmps40
  go_wp2_with fail
  refine (HT.out _).mono ?_
  rintro e w1 ⟨rfl, hb1⟩
  have B1 : Hid (Below w.heap.size w w1) := hb1
  clear hb1
  go_wp2_with fail
  refine (beforeAt50_nil s n _ _ _ (HS.out.below B1.out)).mono ?_
  rintro e w2 ⟨rfl, hb2⟩
  have B2 : Hid (Below w.heap.size w w2) := B1.out.trans (hb2.mono B1.out.size)
  clear hb2
  go_wp2
  go_ret
  exact ⟨rfl, B2.out⟩

set_option maxHeartbeats 1000000 in
theorem beforeAt40_yes (s n b : Nat) (now g nb na : Int) (crl : ByteArray) (w : World) (hs : SetT w s n (.pointer (some ⟨b, 0, none⟩))) (hb : CAIs w b g nb na crl) (hn : inNs now) (r : Bool) (hr : decide (now < na) = r) :
    Calls Try.prog 40 #[.pointer (some ⟨s, 0, none⟩), .int .i64 now] w (ValOut (if r then .pointer (some ⟨b, 0, none⟩) else .pointer none) w) := by
  have HS : Hid (SetT w s n (.pointer (some ⟨b, 0, none⟩)) ∧ CAIs w b g nb na crl) := ⟨hs, hb⟩
  have HT : Hid (∀ w, Calls Try.prog 47 #[.int .i64 now] w (TimeOut w (now % 1000000000) (now / 1000000000))) := fun w => at47 now w (by unfold inNs at hn; omega) (by unfold inNs at hn; omega)
  have HR : Hid (beforeB (now % 1000000000) (now / 1000000000) (na % 1000000000) (na / 1000000000) = r) := by unfold Hid; rw [beforeB_ns]; exact hr
  obtain ⟨v, hv⟩ : ∃ v, v = (if r then Value.pointer (some ⟨b, 0, none⟩) else .pointer none) := ⟨_, rfl⟩
  rw [← hv]
  have HV : Hid (v = (if r then Value.pointer (some ⟨b, 0, none⟩) else .pointer none)) := hv
  clear hs hn hb hr hv
  go_enter Try.func40, Try.ntmps40
  go_wp2_with fail
  refine (HT.out _).mono ?_
  rintro e w1 ⟨rfl, hb1⟩
  have B1 : Hid (Below w.heap.size w w1) := hb1
  clear hb1
  go_wp2_with fail
  refine (beforeAt50_yes s n b _ _ g nb na crl _ (by omega) (by omega) (HS.out.1.below B1.out) (HS.out.2.below B1.out) r HR.out).mono ?_
  rintro e w2 ⟨rfl, hb2⟩
  rw [← HV.out]
  have B2 : Hid (Below w.heap.size w w2) := B1.out.trans (hb2.mono B1.out.size)
  clear hb2
  go_wp2
  go_ret
  exact ⟨rfl, B2.out⟩
end Go.Proofs.Qxb6616928a
