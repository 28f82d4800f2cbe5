import Derived.Test.Qxb6616928aHandover
import Derived.RegionTactic
import Derived.BigRegion
import Derived.Deep.AppendLies
namespace Go.Proofs.Qxb6616928a
open Go.RowKit

def Held1 (w : World) (n : Nat) (e : Ending) (w' : World) : Prop :=
  ∃ g, e = .returned (.slice (some ⟨g, 0, none⟩) 1 1) ∧ Below w.heap.size w w' ∧ g < w'.heap.size ∧ w'.cell? ⟨g, 0, none⟩ = some (.pointer (some ⟨n, 0, none⟩))
def Held2 (w : World) (n b : Nat) (e : Ending) (w' : World) : Prop :=
  ∃ g, e = .returned (.slice (some ⟨g, 0, none⟩) 2 2) ∧ Below w.heap.size w w' ∧ g < w'.heap.size ∧ w'.cell? ⟨g, 0, none⟩ = some (.pointer (some ⟨n, 0, none⟩)) ∧ w'.cell? ⟨g, 1, none⟩ = some (.pointer (some ⟨b, 0, none⟩))

set_option maxHeartbeats 2000000 in
theorem held56_nil (s n : Nat) (w : World) (hs : SetT w s n (.pointer none)) :
    Calls Try.prog 56 #[.pointer (some ⟨s, 0, none⟩)] w (Held1 w n) := by
  obtain ⟨hsl, s0, s1, s2⟩ := hs
  go_enter Try.func56, Try.ntmps56
  go_wp2
  go_ret
  exact ⟨_, rfl, (Below.refl _ _).alloc (Nat.le_refl _) _, by simp, by simp⟩

set_option maxRecDepth 100000 in
set_option maxHeartbeats 2000000 in
theorem held56_yes (s n b : Nat) (w : World) (hs : SetT w s n (.pointer (some ⟨b, 0, none⟩))) :
    Calls Try.prog 56 #[.pointer (some ⟨s, 0, none⟩)] w (Held2 w n b) := by
  obtain ⟨hsl, s0, s1, s2⟩ := hs
  go_enter Try.func56, Try.ntmps56
  go_wp2
  go_region
  all_goals
    go_wp2
    go_ret
    refine ⟨_, rfl, ?_, ?_, ?_, ?_⟩
    · first | exact ((Below.refl _ _).alloc (Nat.le_refl _) _).drew | exact (Below.refl _ _).alloc (Nat.le_refl _) _
    · simp
    · simp
    · simp

def Trust1 (w : World) (n : Nat) (e : Ending) (w' : World) : Prop :=
  ∃ g c, e = .returned (.slice (some ⟨g, 0, none⟩) 1 c) ∧ Below w.heap.size w w' ∧ w'.cell? ⟨g, 0, none⟩ = some (.pointer (some ⟨n, 0, none⟩))
def Trust2 (w : World) (n b : Nat) (e : Ending) (w' : World) : Prop :=
  ∃ g c, e = .returned (.slice (some ⟨g, 0, none⟩) 2 c) ∧ Below w.heap.size w w' ∧ w'.cell? ⟨g, 0, none⟩ = some (.pointer (some ⟨n, 0, none⟩)) ∧ w'.cell? ⟨g, 1, none⟩ = some (.pointer (some ⟨b, 0, none⟩))

attribute [local go_sem ↓] Go.wp_at_zero Go.wp_at_succ

set_option maxRecDepth 100000 in
set_option maxHeartbeats 4000000 in
theorem trusted48_nil (s n : Nat) (x y : Int) (w : World) (hs : SetT w s n (.pointer none)) :
    Calls Try.prog 48 #[.pointer (some ⟨s, 0, none⟩), .agg #[.int .u64 x, .int .i64 y, .pointer none]] w (Trust1 w n) := by
  have HS : Hid (SetT w s n (.pointer none)) := hs
  clear hs
  go_enter Try.func48, Try.ntmps48
  go_wp2_with fail
  refine (issuing46_nil s n _ _ _ (HS.out.below ((Below.refl _ _).alloc (Nat.le_refl _) _))).mono ?_
  rintro e w1 ⟨rfl, hb1⟩
  have B1 : Hid (Below w.heap.size w w1) := ((Below.refl _ _).alloc (Nat.le_refl _) _).trans (hb1.mono (by simp))
  clear hb1
  go_wp2_with fail
  refine (held56_nil s n _ (HS.out.below (B1.out.alloc B1.out.size _))).mono ?_
  rintro e w2 ⟨g, rfl, hb2, hg, hc⟩
  have hz2 := hb2.size
  simp only [World.size_alloc] at hz2
  have HT : Hid (w2.cell? ⟨w1.heap.size, 0, none⟩ = some (.pointer (some ⟨n, 0, none⟩))) := by
    unfold Hid
    rw [hb2.cell (p := ⟨w1.heap.size, 0, none⟩) (by simp)]; simp
  have B2 : Hid (Below w.heap.size w w2) := (B1.out.alloc B1.out.size _).trans (hb2.mono (by have := B1.out.size; simp; omega))
  have E1 := fun (w : World) => ptr_neq_same w ⟨n, 0, none⟩
  clear hb2 hz2
  go_wp2
  refine wp_loop_rounds 2 ?_
  rw [rounds_succ]
  go_wp2
  go_quiet (fail)
  go_wp2
  rw [rounds_succ]
  go_wp2
  go_ret
  exact ⟨_, _, rfl, below_drewN B2.out _, HT.out⟩
theorem Try.info48 : (Try.prog.info? 48).map (fun i => (i.zero, i.size, i.bytes)) = some (some (.pointer none), 1, 8) := by kernel_rfl

theorem own_below {W W' : World} {base : Nat} {e : TypeId} {size : Nat} {v : Value} {n : Nat} {xs : List Value} (h : W.ownsRow base e size v n xs) (hb : Below W.heap.size W W') : W'.ownsRow base e size v n xs := by
  obtain ⟨h1, h2⟩ := h
  refine ⟨h1, ?_⟩
  rcases h2 with h2 | ⟨g, cap, cur, hv, hg, hh, r⟩
  · exact Or.inl h2
  · exact Or.inr ⟨g, cap, cur, hv, hg, by rw [hb.block g (Array.getElem?_eq_some_iff.1 hh).1]; exact hh, r⟩

theorem one_new {w : World} {p : Value} : ∀ (j : Nat) (u : Value), ([p] : List Value)[j]? = some u → (w.alloc (.cells #[p] 48)).cell? ((⟨w.heap.size, 0, none⟩ : Addr).add j) = some u := by
  intro j u hj
  match j, hj with
  | 0, hj => simp at hj; subst hj; simp [Addr.add]

theorem undrewN {w w1 : World} {m : Nat} (hb : Below (w.drewN m).heap.size (w.drewN m) w1) : Below w.heap.size w w1 := ⟨hb.os, hb.tape, hb.output, hb.size, hb.block⟩

set_option maxRecDepth 100000 in
set_option maxHeartbeats 8000000 in
theorem trusted48_yes (s n b : Nat) (g nb na : Int) (crl : ByteArray) (g' nb' na' : Int) (crl' : ByteArray) (z : Int) (w : World) (hs : SetT w s n (.pointer (some ⟨b, 0, none⟩))) (hn : CAIs w n g nb na crl) (hb : CAIs w b g' nb' na' crl') (hne : n ≠ b) (h1 : inNs nb) (hz : handNs nb na' ≤ z) :
    Calls Try.prog 48 #[.pointer (some ⟨s, 0, none⟩), .agg #[.int .u64 (z % 1000000000), .int .i64 (z / 1000000000), .pointer none]] w (if z < na' then Trust2 w n b else Trust1 w n) := by
  have HS : Hid (SetT w s n (.pointer (some ⟨b, 0, none⟩)) ∧ CAIs w n g nb na crl ∧ CAIs w b g' nb' na' crl') := ⟨hs, hn, hb⟩
  have HI : Hid (b ≠ n) := fun e => hne e.symm
  obtain ⟨xz, hxz⟩ : ∃ x, x = z % 1000000000 := ⟨_, rfl⟩
  obtain ⟨yz, hyz⟩ : ∃ x, x = z / 1000000000 := ⟨_, rfl⟩
  obtain ⟨x2, hx2⟩ : ∃ x, x = na' % 1000000000 := ⟨_, rfl⟩
  obtain ⟨y2, hy2⟩ : ∃ x, x = na' / 1000000000 := ⟨_, rfl⟩
  have HC : Hid (∀ w, SetT w s n (.pointer (some ⟨b, 0, none⟩)) → CAIs w n g nb na crl → CAIs w b g' nb' na' crl' → Calls Try.prog 46 #[.pointer (some ⟨s, 0, none⟩), .agg #[.int .u64 xz, .int .i64 yz, .pointer none]] w (ValOut (.pointer (some ⟨n, 0, none⟩)) w)) := fun w a1 a2 a3 => by
    rw [hxz, hyz]; exact issuing46_yes s n b g nb na crl g' nb' na' crl' z w a1 a2 a3 h1 hz
  have HB : Hid (∀ w, Calls Try.prog 55 #[.agg #[.int .u64 xz, .int .i64 yz, .pointer none], .agg #[.int .u64 x2, .int .i64 y2, .pointer none]] w (BoolOut (decide (z < na')) w)) := fun w => by
    have := before55 xz yz x2 y2 w (by omega) (by omega) (by omega) (by omega)
    rw [hxz, hyz, hx2, hy2, beforeB_ns] at this
    rw [hxz, hyz, hx2, hy2]; exact this
  have HD : Hid (∀ w, CAIs w b g' nb' na' crl' → ∃ k, w.cell? ⟨b, 1, none⟩ = some (.pointer (some ⟨k, 0, none⟩)) ∧ w.cell? ⟨k, 37, none⟩ = some (.int .u64 x2) ∧ w.cell? ⟨k, 38, none⟩ = some (.int .i64 y2) ∧ w.cell? ⟨k, 39, none⟩ = some (.pointer none)) := fun w h => by
    obtain ⟨k, ⟨_, _, c1, _⟩, ⟨_, _, _, _, t1, t2, t3⟩⟩ := h
    exact ⟨k, c1, by rw [hx2]; exact t1, by rw [hy2]; exact t2, t3⟩
  obtain ⟨i0, hi, hz0, hz1, hz2⟩ := info_parts Try.info48
  have HF : Hid (Try.prog.info? 48 = some i0 ∧ i0.zero = some (.pointer none) ∧ i0.size = 1 ∧ i0.bytes = 8) := ⟨hi, hz0, hz1, hz2⟩
  rw [← hxz, ← hyz]
  clear hs hn hb hne h1 hz hxz hyz hx2 hy2 hi hz0 hz1 hz2
  by_cases hlt : z < na'
  · have ed : decide (z < na') = true := decide_eq_true hlt
    rw [if_pos hlt]
    rw [ed] at HB
    clear ed hlt
    go_enter Try.func48, Try.ntmps48
    go_wp2_with fail
    refine (HC.out _ (HS.out.1.below ((Below.refl _ _).alloc (Nat.le_refl _) _)) (HS.out.2.1.below ((Below.refl _ _).alloc (Nat.le_refl _) _)) (HS.out.2.2.below ((Below.refl _ _).alloc (Nat.le_refl _) _))).mono ?_
    rintro e w1 ⟨rfl, hb1⟩
    obtain ⟨p0, p1, p2, _, _, hzw, hbw1⟩ := slot3 hb1
    have B1 : Hid (Below w.heap.size w w1) := hbw1
    have P1 : Hid (w.heap.size < w1.heap.size ∧ w1.cell? ⟨w.heap.size, 0, none⟩ = some (.int .u64 xz) ∧ w1.cell? ⟨w.heap.size, 1, none⟩ = some (.int .i64 yz) ∧ w1.cell? ⟨w.heap.size, 2, none⟩ = some (.pointer none)) := ⟨hzw, p0, p1, p2⟩
    clear hb1 hbw1 p0 p1 p2 hzw
    go_wp2_with fail
    refine (held56_yes s n b _ (HS.out.1.below (B1.out.alloc B1.out.size _))).mono ?_
    rintro e w2 ⟨gh, rfl, hb2, hg, hc0, hc1⟩
    have BW : Below w1.heap.size w1 w2 := ((Below.refl _ _).alloc (Nat.le_refl _) _).trans (hb2.mono (by simp))
    have B2 : Hid (Below w.heap.size w w2) := B1.out.trans (BW.mono B1.out.size)
    have OW : Hid (w2.ownsRow w1.heap.size 48 1 (.slice (some ⟨w1.heap.size, 0, none⟩) 1 1) 1 [.pointer (some ⟨n, 0, none⟩)] ∧ w1.heap.size < w2.heap.size) := by
      refine ⟨own_below (World.ownsRow_lit w1 #[.pointer (some ⟨n, 0, none⟩)] 1 (Nat.le_refl _) (by unfold maxLen; omega) rfl) hb2, ?_⟩
      have := hb2.size; simp at this; omega
    have p0 : w2.cell? ⟨w.heap.size, 0, none⟩ = some (.int .u64 xz) := by rw [BW.cell (p := ⟨w.heap.size, 0, none⟩) P1.out.1]; exact P1.out.2.1
    have p1 : w2.cell? ⟨w.heap.size, 1, none⟩ = some (.int .i64 yz) := by rw [BW.cell (p := ⟨w.heap.size, 1, none⟩) P1.out.1]; exact P1.out.2.2.1
    have p2 : w2.cell? ⟨w.heap.size, 2, none⟩ = some (.pointer none) := by rw [BW.cell (p := ⟨w.heap.size, 2, none⟩) P1.out.1]; exact P1.out.2.2.2
    obtain ⟨k, d1, d2, d3, d4⟩ := HD.out w2 (HS.out.2.2.below B2.out)
    have E1 := fun (w : World) => ptr_neq_same w ⟨n, 0, none⟩
    have E2 := fun (m : Nat) => ptr_neq_other (w := w2.drewN m) HI.out (HS.out.2.2.below B2.out).plain (HS.out.2.1.below B2.out).plain
    clear hb2 BW
    go_wp2
    refine wp_loop_rounds 3 ?_
    rw [rounds_succ]
    go_wp2
    go_quiet (fail)
    go_wp2
    rw [rounds_succ]
    go_wp2
    go_region_with ((go_at_call 55; refine (HB.out _).mono ?_; rintro e w3 ⟨rfl, hb3⟩))
    all_goals
      have BW3 : Below w2.heap.size w2 w3 := undrewN hb3
      have A3 : Hid (Below w.heap.size w w3) := B2.out.trans (BW3.mono B2.out.size)
      have O3 : w3.ownsRow w1.heap.size 48 1 (.slice (some ⟨w1.heap.size, 0, none⟩) 1 1) 1 [.pointer (some ⟨n, 0, none⟩)] := own_below OW.out.1 BW3
      have Z3 : Hid (w1.heap.size < w3.heap.size ∧ w.heap.size ≤ w1.heap.size) := ⟨Nat.lt_of_lt_of_le OW.out.2 BW3.size, B1.out.size⟩
      clear hb3 BW3 E1 E2 p0 p1 p2 d1 d2 d3 d4
      go_wp2_with (at_builtin; refine wpList_append_lies _ rfl (.tmp 35) (.tmp 37) 54 rfl w1.heap.size 48 i0 (.pointer none) 1 8 Try.underlying54 HF.out.1 HF.out.2.1 HF.out.2.2.1 HF.out.2.2.2 rfl (by omega) (.slice (some ⟨w1.heap.size, 0, none⟩) 1 1) 1 [.pointer (some ⟨n, 0, none⟩)] rfl (O3.alloc _) ⟨w3.heap.size, 0, none⟩ 1 1 [.pointer (some ⟨b, 0, none⟩)] rfl rfl one_new (by simp [Value.oneCell']) (by omega) (by unfold maxLen; omega) (by omega) (by have := Z3.out; simp; omega) (w3.heap.size + 1) (by simp) ?_)
      intro ga capa w4 hown4 hgrow4 hat4 hlt4
      have c0 : w4.cell? ⟨ga, 0, none⟩ = some (.pointer (some ⟨n, 0, none⟩)) := by rw [hown4.cellAt 0 (by omega)]; rfl
      have c1 : w4.cell? ⟨ga, 1, none⟩ = some (.pointer (some ⟨b, 0, none⟩)) := by rw [hown4.cellAt 1 (by omega)]; rfl
      have A4 : Hid (Below w.heap.size w w4) := (A3.out.alloc A3.out.size _).grown hgrow4 (by have := Z3.out; simp; omega) (fun r hr => by have := Z3.out; simp [Value.ownBlock] at hr; omega)
      have FIN : Hid (w4.cell? ⟨ga, 0, none⟩ = some (.pointer (some ⟨n, 0, none⟩)) ∧ w4.cell? ⟨ga, 1, none⟩ = some (.pointer (some ⟨b, 0, none⟩))) := ⟨c0, c1⟩
      clear hown4 hgrow4 hat4 hlt4 c0 c1 O3
      go_wp2
      rw [rounds_succ]
      go_wp2
      go_ret
      exact ⟨_, _, rfl, A4.out, FIN.out⟩
  · have ed : decide (z < na') = false := decide_eq_false hlt
    rw [if_neg hlt]
    rw [ed] at HB
    clear ed hlt
    go_enter Try.func48, Try.ntmps48
    go_wp2_with fail
    refine (HC.out _ (HS.out.1.below ((Below.refl _ _).alloc (Nat.le_refl _) _)) (HS.out.2.1.below ((Below.refl _ _).alloc (Nat.le_refl _) _)) (HS.out.2.2.below ((Below.refl _ _).alloc (Nat.le_refl _) _))).mono ?_
    rintro e w1 ⟨rfl, hb1⟩
    obtain ⟨p0, p1, p2, _, _, hzw, hbw1⟩ := slot3 hb1
    have B1 : Hid (Below w.heap.size w w1) := hbw1
    have P1 : Hid (w.heap.size < w1.heap.size ∧ w1.cell? ⟨w.heap.size, 0, none⟩ = some (.int .u64 xz) ∧ w1.cell? ⟨w.heap.size, 1, none⟩ = some (.int .i64 yz) ∧ w1.cell? ⟨w.heap.size, 2, none⟩ = some (.pointer none)) := ⟨hzw, p0, p1, p2⟩
    clear hb1 hbw1 p0 p1 p2 hzw
    go_wp2_with fail
    refine (held56_yes s n b _ (HS.out.1.below (B1.out.alloc B1.out.size _))).mono ?_
    rintro e w2 ⟨gh, rfl, hb2, hg, hc0, hc1⟩
    have BW : Below w1.heap.size w1 w2 := ((Below.refl _ _).alloc (Nat.le_refl _) _).trans (hb2.mono (by simp))
    have B2 : Hid (Below w.heap.size w w2) := B1.out.trans (BW.mono B1.out.size)
    have OW : Hid (w2.ownsRow w1.heap.size 48 1 (.slice (some ⟨w1.heap.size, 0, none⟩) 1 1) 1 [.pointer (some ⟨n, 0, none⟩)] ∧ w1.heap.size < w2.heap.size) := by
      refine ⟨own_below (World.ownsRow_lit w1 #[.pointer (some ⟨n, 0, none⟩)] 1 (Nat.le_refl _) (by unfold maxLen; omega) rfl) hb2, ?_⟩
      have := hb2.size; simp at this; omega
    have p0 : w2.cell? ⟨w.heap.size, 0, none⟩ = some (.int .u64 xz) := by rw [BW.cell (p := ⟨w.heap.size, 0, none⟩) P1.out.1]; exact P1.out.2.1
    have p1 : w2.cell? ⟨w.heap.size, 1, none⟩ = some (.int .i64 yz) := by rw [BW.cell (p := ⟨w.heap.size, 1, none⟩) P1.out.1]; exact P1.out.2.2.1
    have p2 : w2.cell? ⟨w.heap.size, 2, none⟩ = some (.pointer none) := by rw [BW.cell (p := ⟨w.heap.size, 2, none⟩) P1.out.1]; exact P1.out.2.2.2
    obtain ⟨k, d1, d2, d3, d4⟩ := HD.out w2 (HS.out.2.2.below B2.out)
    have E1 := fun (w : World) => ptr_neq_same w ⟨n, 0, none⟩
    have E2 := fun (m : Nat) => ptr_neq_other (w := w2.drewN m) HI.out (HS.out.2.2.below B2.out).plain (HS.out.2.1.below B2.out).plain
    clear hb2 BW
    go_wp2
    refine wp_loop_rounds 3 ?_
    rw [rounds_succ]
    go_wp2
    go_quiet (fail)
    go_wp2
    rw [rounds_succ]
    go_wp2
    go_region_with ((go_at_call 55; refine (HB.out _).mono ?_; rintro e w3 ⟨rfl, hb3⟩))
    all_goals
      have BW3 : Below w2.heap.size w2 w3 := undrewN hb3
      have A3 : Hid (Below w.heap.size w w3) := B2.out.trans (BW3.mono B2.out.size)
      have FIN : Hid (w3.cell? ⟨w1.heap.size, 0, none⟩ = some (.pointer (some ⟨n, 0, none⟩))) := by
        have O3 := own_below OW.out.1 BW3
        unfold Hid
        rw [O3.cellAt 0 (by omega)]; rfl
      clear hb3 BW3 E1 E2 p0 p1 p2 d1 d2 d3 d4
      go_wp2
      rw [rounds_succ]
      go_wp2
      go_ret
      exact ⟨_, _, rfl, A3.out, FIN.out⟩
end Go.Proofs.Qxb6616928a
