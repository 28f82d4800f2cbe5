import Derived.Test.Qxb6616928aUntil
namespace Go.Proofs.Qxb6616928a
open Go.RowKit

set_option maxHeartbeats 2000000 in
theorem hand45_nil (s n : Nat) (w : World) (hs : SetT w s n (.pointer none)) :
    Calls Try.prog 45 #[.pointer (some ⟨s, 0, none⟩)] w (TimeOut w 0 0) := by
  obtain ⟨hsl, s0, s1, s2⟩ := hs
  go_enter Try.func45, Try.ntmps45
  go_wp2
  exact bodyPost_ret (v := .agg #[.int .u64 0, .int .i64 0, .pointer none]) (by simp [results, Try.results45, go_sem]) rfl ⟨rfl, (Below.refl _ _).alloc (Nat.le_refl _) _⟩

/-- The result slot (three cells, behind w), in a later world. -/
def SlotIn (w w1 : World) : Prop :=
  Below w.heap.size w w1 ∧ w.heap.size < w1.heap.size ∧ (w1.cell? ⟨w.heap.size, 0, none⟩ = some (.int .u64 0) ∧ w1.cell? ⟨w.heap.size, 1, none⟩ = some (.int .i64 0) ∧ w1.cell? ⟨w.heap.size, 2, none⟩ = some (.pointer none)) ∧
  w1.frozen? ⟨w.heap.size, 0, none⟩ = false ∧ w1.frozen? ⟨w.heap.size, 1, none⟩ = false ∧ w1.frozen? ⟨w.heap.size, 2, none⟩ = false
theorem SlotIn.start (w : World) : SlotIn w (w.alloc (.cells #[.int .u64 0, .int .i64 0, .pointer none] 72)).drew := by
  refine ⟨((Below.refl _ _).alloc (Nat.le_refl _) _).drew, by simp, ⟨?_, ?_, ?_⟩, ?_, ?_, ?_⟩
  · show World.cell? (w.alloc _) _ = _; simp
  · show World.cell? (w.alloc _) _ = _; simp
  · show World.cell? (w.alloc _) _ = _; simp
  · show World.frozen? (w.alloc _) _ = _; simp
  · show World.frozen? (w.alloc _) _ = _; simp
  · show World.frozen? (w.alloc _) _ = _; simp
theorem SlotIn.next {w w1 w2 : World} (h : SlotIn w w1) (hb : Below w1.heap.size w1 w2) : SlotIn w w2 := by
  obtain ⟨h1, h2, ⟨c0, c1, c2⟩, f0, f1, f2⟩ := h
  refine ⟨h1.trans (hb.mono h1.size), Nat.lt_of_lt_of_le h2 hb.size, ⟨?_, ?_, ?_⟩, ?_, ?_, ?_⟩
  · rw [hb.cell (p := ⟨w.heap.size, 0, none⟩) h2]; exact c0
  · rw [hb.cell (p := ⟨w.heap.size, 1, none⟩) h2]; exact c1
  · rw [hb.cell (p := ⟨w.heap.size, 2, none⟩) h2]; exact c2
  · rw [hb.frozen (p := ⟨w.heap.size, 0, none⟩) h2]; exact f0
  · rw [hb.frozen (p := ⟨w.heap.size, 1, none⟩) h2]; exact f1
  · rw [hb.frozen (p := ⟨w.heap.size, 2, none⟩) h2]; exact f2

/-- When the newest takes over, in nanoseconds. -/
def handNs (nbN naB : Int) : Int := if naB < nbN + 90000000000000 then naB else nbN + 90000000000000

attribute [local go_sem ↓] Go.wp_at_zero Go.wp_at_succ

set_option maxRecDepth 100000 in
set_option maxHeartbeats 8000000 in
theorem hand45_yes (s n b : Nat) (g nb na : Int) (crl : ByteArray) (g' nb' na' : Int) (crl' : ByteArray) (w : World) (hs : SetT w s n (.pointer (some ⟨b, 0, none⟩))) (hn : CAIs w n g nb na crl) (hb : CAIs w b g' nb' na' crl') (h1 : inNs nb) (r : Int) (hr : r = handNs nb na') :
    Calls Try.prog 45 #[.pointer (some ⟨s, 0, none⟩)] w (TimeOut w (r % 1000000000) (r / 1000000000)) := by
  obtain ⟨hsl, s0, s1, s2⟩ := hs
  obtain ⟨k, ⟨hnl, _, n1, _⟩, ⟨hkl, t1, t2, t3, _⟩⟩ := hn
  have HB : Hid (CAIs w b g' nb' na' crl') := hb
  obtain ⟨x, hx⟩ : ∃ x, x = nb % 1000000000 := ⟨_, rfl⟩
  obtain ⟨y, hy⟩ : ∃ y, y = nb / 1000000000 := ⟨_, rfl⟩
  rw [← hx] at t1
  rw [← hy] at t2
  obtain ⟨xz, hxz⟩ : ∃ x, x = (nb + 90000000000000) % 1000000000 := ⟨_, rfl⟩
  obtain ⟨yz, hyz⟩ : ∃ x, x = (nb + 90000000000000) / 1000000000 := ⟨_, rfl⟩
  obtain ⟨xr, hxr⟩ : ∃ x, x = r % 1000000000 := ⟨_, rfl⟩
  obtain ⟨yr, hyr⟩ : ∃ x, x = r / 1000000000 := ⟨_, rfl⟩
  have HA : Hid (∀ w, Calls Try.prog 54 #[.agg #[.int .u64 x, .int .i64 y, .pointer none], .int .i64 90000000000000] w (TimeOut w xz yz)) := fun w => by
    rw [hxz, hyz]; unfold inNs at h1; exact add54 x y 90000000000000 (nb + 90000000000000) w (by omega) (by omega) (by omega) (by omega) (by omega) (by omega) (by omega)
  have HU : Hid (∀ w, CAIs w b g' nb' na' crl' → Calls Try.prog 53 #[.pointer (some ⟨b, 0, none⟩), .agg #[.int .u64 xz, .int .i64 yz, .pointer none]] w (TimeOut w xr yr)) := fun w h => by
    rw [hxz, hyz, hxr, hyr]; exact until_ns b g' nb' na' crl' (nb + 90000000000000) w h r (by rw [hr]; rfl)
  rw [← hxr, ← hyr]
  clear hx hy hxz hyz hxr hyr hr hb h1
  go_enter Try.func45, Try.ntmps45
  go_wp2
  go_region_with (first | (go_at_call 54; refine (HA.out _).mono ?_; rintro e w1 ⟨rfl, hb1⟩; have L1 : Hid (SlotIn w w1) := (SlotIn.start w).next hb1; have q1 : w1.cell? ⟨s, 1, none⟩ = some (.pointer (some ⟨b, 0, none⟩)) := by (rw [L1.out.1.cell (p := ⟨s, 1, none⟩) hsl]; exact s1)) | (go_at_call 53; refine (HU.out _ (HB.out.below L1.out.1)).mono ?_; rintro e w2 ⟨rfl, hb2⟩; have L2 : Hid (SlotIn w w2) := L1.out.next hb2; obtain ⟨_, hz2, ⟨p0, p1, p2⟩, f0, f1, f2⟩ := L2.out))
  all_goals
    have HL : Hid (Below w.heap.size w w2) := L2.out.1
    clear hb1 hb2 q1
    go_wp2
    exact bodyPost_ret (v := .agg #[.int .u64 xr, .int .i64 yr, .pointer none]) (by simp [results, Try.results45, go_sem, p0, p1, p2]) rfl ⟨rfl, ((HL.out.setCell (by simp) _).setCell (by simp) _).setCell (by simp) _⟩

set_option maxHeartbeats 1000000 in
theorem handNs30_nil (s n : Nat) (w : World) (hs : SetT w s n (.pointer none)) :
    Calls Try.prog 30 #[.pointer (some ⟨s, 0, none⟩)] w (IntOut 0 w) := by
  have HS : Hid (SetT w s n (.pointer none)) := hs
  clear hs
  go_enter Try.func30, Try.ntmps30
  go_wp2_with fail
  refine (hand45_nil s n _ HS.out).mono ?_
  rintro e w1 ⟨rfl, hb1⟩
  have B1 : Hid (Below w.heap.size w w1) := hb1
  clear hb1
  go_wp2_with fail
  refine (ns44 0 0 0 _ (by omega) (by omega) (by omega) (by omega) (by omega)).mono ?_
  rintro e w2 ⟨rfl, hb2⟩
  have B2 : Hid (Below w.heap.size w w2) := B1.out.trans (hb2.mono B1.out.size)
  clear hb2
  go_wp2
  go_ret
  exact ⟨rfl, B2.out⟩

set_option maxHeartbeats 1000000 in
theorem handNs30_yes (s n b : Nat) (g nb na : Int) (crl : ByteArray) (g' nb' na' : Int) (crl' : ByteArray) (w : World) (hs : SetT w s n (.pointer (some ⟨b, 0, none⟩))) (hn : CAIs w n g nb na crl) (hb : CAIs w b g' nb' na' crl') (h1 : inNs nb) (h2 : inNs na') (r : Int) (hr : r = handNs nb na') :
    Calls Try.prog 30 #[.pointer (some ⟨s, 0, none⟩)] w (IntOut r w) := by
  have HC : Hid (Calls Try.prog 45 #[.pointer (some ⟨s, 0, none⟩)] w (TimeOut w (r % 1000000000) (r / 1000000000))) := hand45_yes s n b g nb na crl g' nb' na' crl' w hs hn hb h1 r hr
  have b0 : -9000000000000000000 ≤ r := by unfold inNs at h1 h2; unfold handNs at hr; split at hr <;> omega
  have b1 : r ≤ 9000000000000000000 := by unfold inNs at h1 h2; unfold handNs at hr; split at hr <;> omega
  have HN : Hid (∀ w, Calls Try.prog 44 #[.agg #[.int .u64 (r % 1000000000), .int .i64 (r / 1000000000), .pointer none]] w (IntOut r w)) := fun w => ns44 _ _ r w (by omega) (by omega) (by omega) b0 b1
  clear hs hn hb h1 h2 hr b0 b1
  go_enter Try.func30, Try.ntmps30
  go_wp2_with fail
  refine HC.out.mono ?_
  rintro e w1 ⟨rfl, hb1⟩
  have B1 : Hid (Below w.heap.size w w1) := hb1
  clear hb1
  go_wp2_with fail
  refine (HN.out _).mono ?_
  rintro e w2 ⟨rfl, hb2⟩
  have B2 : Hid (Below w.heap.size w w2) := B1.out.trans (hb2.mono B1.out.size)
  clear hb2
  go_wp2
  go_ret
  exact ⟨rfl, B2.out⟩

set_option maxHeartbeats 2000000 in
theorem issuing46_nil (s n : Nat) (x y : Int) (w : World) (hs : SetT w s n (.pointer none)) :
    Calls Try.prog 46 #[.pointer (some ⟨s, 0, none⟩), .agg #[.int .u64 x, .int .i64 y, .pointer none]] w (ValOut (.pointer (some ⟨n, 0, none⟩)) w) := by
  obtain ⟨hsl, s0, s1, s2⟩ := hs
  go_enter Try.func46, Try.ntmps46
  go_wp2
  go_quiet (fail)
  go_wp2
  go_ret
  exact ⟨rfl, below_drewN ((Below.refl _ _).alloc (Nat.le_refl _) _) _⟩

theorem undrew {w w1 : World} (hb : Below w.drew.heap.size w.drew w1) : Below w.heap.size w w1 := ⟨hb.os, hb.tape, hb.output, hb.size, hb.block⟩

set_option maxRecDepth 100000 in
set_option maxHeartbeats 8000000 in
theorem issuing46_yes (s n b : Nat) (g nb na : Int) (crl : ByteArray) (g' nb' na' : Int) (crl' : ByteArray) (z : Int) (w : World) (hs : SetT w s n (.pointer (some ⟨b, 0, none⟩))) (hn : CAIs w n g nb na crl) (hb : CAIs w b g' nb' na' crl') (h1 : inNs nb) (hz : handNs nb na' ≤ z) :
    Calls Try.prog 46 #[.pointer (some ⟨s, 0, none⟩), .agg #[.int .u64 (z % 1000000000), .int .i64 (z / 1000000000), .pointer none]] w (ValOut (.pointer (some ⟨n, 0, none⟩)) w) := by
  have HS : Hid (SetT w s n (.pointer (some ⟨b, 0, none⟩)) ∧ CAIs w n g nb na crl ∧ CAIs w b g' nb' na' crl') := ⟨hs, hn, hb⟩
  obtain ⟨hsl, s0, s1, s2⟩ := hs
  obtain ⟨r, hr⟩ : ∃ r, r = handNs nb na' := ⟨_, rfl⟩
  obtain ⟨xz, hxz⟩ : ∃ x, x = z % 1000000000 := ⟨_, rfl⟩
  obtain ⟨yz, hyz⟩ : ∃ x, x = z / 1000000000 := ⟨_, rfl⟩
  obtain ⟨xr, hxr⟩ : ∃ x, x = r % 1000000000 := ⟨_, rfl⟩
  obtain ⟨yr, hyr⟩ : ∃ x, x = r / 1000000000 := ⟨_, rfl⟩
  have HH : Hid (∀ w, SetT w s n (.pointer (some ⟨b, 0, none⟩)) → CAIs w n g nb na crl → CAIs w b g' nb' na' crl' → Calls Try.prog 45 #[.pointer (some ⟨s, 0, none⟩)] w (TimeOut w xr yr)) := fun w a1 a2 a3 => by
    rw [hxr, hyr]; exact hand45_yes s n b g nb na crl g' nb' na' crl' w a1 a2 a3 h1 r hr
  have HB : Hid (∀ w, Calls Try.prog 55 #[.agg #[.int .u64 xz, .int .i64 yz, .pointer none], .agg #[.int .u64 xr, .int .i64 yr, .pointer none]] w (BoolOut false w)) := fun w => by
    have := before55 xz yz xr yr w (by omega) (by omega) (by omega) (by omega)
    rw [hxz, hyz, hxr, hyr, beforeB_ns, decide_eq_false (by omega)] at this
    rw [hxz, hyz, hxr, hyr]; exact this
  rw [← hxz, ← hyz]
  clear hxz hyz hxr hyr hr hz hn hb h1
  go_enter Try.func46, Try.ntmps46
  go_wp2
  go_region_with (first | (go_at_call 45; refine (HH.out _ (HS.out.1.below (((Below.refl _ _).alloc (Nat.le_refl _) _).drew)) (HS.out.2.1.below (((Below.refl _ _).alloc (Nat.le_refl _) _).drew)) (HS.out.2.2.below (((Below.refl _ _).alloc (Nat.le_refl _) _).drew))).mono ?_; rintro e w1 ⟨rfl, hb1⟩; obtain ⟨p0, p1, p2, _, _, hz1, hbw1⟩ := slot3 (undrew hb1)) | (go_at_call 55; refine (HB.out _).mono ?_; rintro e w2 ⟨rfl, hb2⟩; have A2 : Below w.heap.size w w2 := hbw1.trans (hb2.mono hbw1.size); have q0 : w2.cell? ⟨s, 0, none⟩ = some (.pointer (some ⟨n, 0, none⟩)) := by (rw [A2.cell (p := ⟨s, 0, none⟩) hsl]; exact s0)))
  all_goals
    have HA2 : Hid (Below w.heap.size w w2) := A2
    clear hb1 hb2 A2 hbw1
    go_wp2
    go_ret
    exact ⟨rfl, HA2.out⟩

set_option maxHeartbeats 1000000 in
theorem issuing31_nil (s n : Nat) (now : Int) (w : World) (hs : SetT w s n (.pointer none)) (h0 : -9000000000000000000 ≤ now) (h1 : now ≤ 9000000000000000000) :
    Calls Try.prog 31 #[.pointer (some ⟨s, 0, none⟩), .int .i64 now] w (ValOut (.pointer (some ⟨n, 0, none⟩)) w) := by
  have HS : Hid (SetT w s n (.pointer none)) := hs
  have HT : Hid (∀ w, Calls Try.prog 47 #[.int .i64 now] w (TimeOut w (now % 1000000000) (now / 1000000000))) := fun w => at47 now w (by omega) (by omega)
  clear hs h0 h1
  go_enter Try.func31, Try.ntmps31
  go_wp2_with fail
  refine (HT.out _).mono ?_
  rintro e w1 ⟨rfl, hb1⟩
  have B1 : Hid (Below w.heap.size w w1) := hb1
  clear hb1
  go_wp2_with fail
  refine (issuing46_nil s n _ _ _ (HS.out.below B1.out)).mono ?_
  rintro e w2 ⟨rfl, hb2⟩
  have B2 : Hid (Below w.heap.size w w2) := B1.out.trans (hb2.mono B1.out.size)
  clear hb2
  go_wp2
  go_ret
  exact ⟨rfl, B2.out⟩

set_option maxHeartbeats 1000000 in
theorem issuing31_yes (s n b : Nat) (g nb na : Int) (crl : ByteArray) (g' nb' na' : Int) (crl' : ByteArray) (now : Int) (w : World) (hs : SetT w s n (.pointer (some ⟨b, 0, none⟩))) (hn : CAIs w n g nb na crl) (hb : CAIs w b g' nb' na' crl') (h1 : inNs nb) (hz : handNs nb na' ≤ now) (h2 : -9000000000000000000 ≤ now) (h3 : now ≤ 9000000000000000000) :
    Calls Try.prog 31 #[.pointer (some ⟨s, 0, none⟩), .int .i64 now] w (ValOut (.pointer (some ⟨n, 0, none⟩)) w) := by
  have HS : Hid (SetT w s n (.pointer (some ⟨b, 0, none⟩)) ∧ CAIs w n g nb na crl ∧ CAIs w b g' nb' na' crl') := ⟨hs, hn, hb⟩
  have HT : Hid (∀ w, Calls Try.prog 47 #[.int .i64 now] w (TimeOut w (now % 1000000000) (now / 1000000000))) := fun w => at47 now w (by omega) (by omega)
  have HI : Hid (inNs nb ∧ handNs nb na' ≤ now) := ⟨h1, hz⟩
  clear hs hn hb h1 hz h2 h3
  go_enter Try.func31, Try.ntmps31
  go_wp2_with fail
  refine (HT.out _).mono ?_
  rintro e w1 ⟨rfl, hb1⟩
  have B1 : Hid (Below w.heap.size w w1) := hb1
  clear hb1
  go_wp2_with fail
  refine (issuing46_yes s n b g nb na crl g' nb' na' crl' now _ (HS.out.1.below B1.out) (HS.out.2.1.below B1.out) (HS.out.2.2.below B1.out) HI.out.1 HI.out.2).mono ?_
  rintro e w2 ⟨rfl, hb2⟩
  have B2 : Hid (Below w.heap.size w w2) := B1.out.trans (hb2.mono B1.out.size)
  clear hb2
  go_wp2
  go_ret
  exact ⟨rfl, B2.out⟩
end Go.Proofs.Qxb6616928a
