import Derived.Test.Qxb6616928aTimeB
namespace Go.Proofs.Qxb6616928a
open Go.RowKit

set_option maxHeartbeats 1000000 in
theorem ns44 (x y z : Int) (w : World) (hx0 : 0 ≤ x) (hx1 : x < 1000000000) (hz : z = y * 1000000000 + x) (hd0 : -9000000000000000000 ≤ z) (hd1 : z ≤ 9000000000000000000) :
    Calls Try.prog 44 #[.agg #[.int .u64 x, .int .i64 y, .pointer none]] w (IntOut z w) := by
  have HZ : Hid (z = y * 1000000000 + x) := hz
  clear hz
  go_enter Try.func44, Try.ntmps44
  go_wp2_with fail
  refine (sub52 x y z _ hx0 hx1 HZ.out hd0 hd1).mono ?_
  rintro e w1 ⟨rfl, hb⟩
  have FIN : Hid (Below w.heap.size w w1) := ((Below.refl _ _).alloc (Nat.le_refl _) _).trans (hb.mono (by simp))
  clear hb
  go_wp2
  go_ret
  exact ⟨rfl, FIN.out⟩

/-- Block k holds a certificate that is valid from (x1, y1) to (x2, y2). -/
def CertT (w : World) (k : Nat) (x1 y1 x2 y2 : Int) : Prop :=
  k < w.heap.size ∧ w.cell? ⟨k, 34, none⟩ = some (.int .u64 x1) ∧ w.cell? ⟨k, 35, none⟩ = some (.int .i64 y1) ∧ w.cell? ⟨k, 36, none⟩ = some (.pointer none) ∧
  w.cell? ⟨k, 37, none⟩ = some (.int .u64 x2) ∧ w.cell? ⟨k, 38, none⟩ = some (.int .i64 y2) ∧ w.cell? ⟨k, 39, none⟩ = some (.pointer none)
theorem CertT.below {w w' : World} {k : Nat} {x1 y1 x2 y2 : Int} (h : CertT w k x1 y1 x2 y2) (hb : Below w.heap.size w w') : CertT w' k x1 y1 x2 y2 := by
  obtain ⟨hk, h1, h2, h3, h4, h5, h6⟩ := h
  refine ⟨Nat.lt_of_lt_of_le hk hb.size, ?_, ?_, ?_, ?_, ?_, ?_⟩
  · rw [hb.cell (p := ⟨k, 34, none⟩) hk]; exact h1
  · rw [hb.cell (p := ⟨k, 35, none⟩) hk]; exact h2
  · rw [hb.cell (p := ⟨k, 36, none⟩) hk]; exact h3
  · rw [hb.cell (p := ⟨k, 37, none⟩) hk]; exact h4
  · rw [hb.cell (p := ⟨k, 38, none⟩) hk]; exact h5
  · rw [hb.cell (p := ⟨k, 39, none⟩) hk]; exact h6

/-- Block c holds a CA of generation g, its certificate in block k, naming crl. -/
def CAT (w : World) (c : Nat) (g : Int) (k : Nat) (crl : ByteArray) : Prop :=
  c < w.heap.size ∧ w.cell? ⟨c, 0, none⟩ = some (.int .i64 g) ∧ w.cell? ⟨c, 1, none⟩ = some (.pointer (some ⟨k, 0, none⟩)) ∧ w.cell? ⟨c, 2, none⟩ = some (.slice none 0 0) ∧ w.cell? ⟨c, 3, none⟩ = some .nilIface ∧ w.cell? ⟨c, 4, none⟩ = some (.string crl) ∧ ∃ cs t, w.heap[c]? = some (.cells cs t (0, 0))
theorem CAT.below {w w' : World} {c k : Nat} {g : Int} {crl : ByteArray} (h : CAT w c g k crl) (hb : Below w.heap.size w w') : CAT w' c g k crl := by
  obtain ⟨hk, h1, h2, h3, h4, h5, cs, t, h6⟩ := h
  refine ⟨Nat.lt_of_lt_of_le hk hb.size, ?_, ?_, ?_, ?_, ?_, cs, t, (hb.block c hk).trans h6⟩
  · rw [hb.cell (p := ⟨c, 0, none⟩) hk]; exact h1
  · rw [hb.cell (p := ⟨c, 1, none⟩) hk]; exact h2
  · rw [hb.cell (p := ⟨c, 2, none⟩) hk]; exact h3
  · rw [hb.cell (p := ⟨c, 3, none⟩) hk]; exact h4
  · rw [hb.cell (p := ⟨c, 4, none⟩) hk]; exact h5

/-- Block c holds a CA of generation g, valid from nb to na (in nanoseconds), naming crl. -/
def CAIs (w : World) (c : Nat) (g nb na : Int) (crl : ByteArray) : Prop :=
  ∃ k, CAT w c g k crl ∧ CertT w k (nb % 1000000000) (nb / 1000000000) (na % 1000000000) (na / 1000000000)
theorem CAIs.below {w w' : World} {c : Nat} {g nb na : Int} {crl : ByteArray} (h : CAIs w c g nb na crl) (hb : Below w.heap.size w w') : CAIs w' c g nb na crl := by
  obtain ⟨k, h1, h2⟩ := h
  exact ⟨k, h1.below hb, h2.below hb⟩

/-- What comes back is a new CA. -/
def CAOut (w : World) (g nb na : Int) (crl : ByteArray) (e : Ending) (w' : World) : Prop :=
  ∃ c, e = .returned (.pointer (some ⟨c, 0, none⟩)) ∧ Below w.heap.size w w' ∧ w.heap.size ≤ c ∧ CAIs w' c g nb na crl

theorem built83t (x1 y1 x2 y2 : Int) : ∃ cs : Array Value, Try.prog.built 83 [(14, .agg #[.int .u64 x1, .int .i64 y1, .pointer none]), (15, .agg #[.int .u64 x2, .int .i64 y2, .pointer none])] = some cs ∧
    cs[34]? = some (.int .u64 x1) ∧ cs[35]? = some (.int .i64 y1) ∧ cs[36]? = some (.pointer none) ∧ cs[37]? = some (.int .u64 x2) ∧ cs[38]? = some (.int .i64 y2) ∧ cs[39]? = some (.pointer none) := by
  refine ⟨(Try.prog.built 83 [(14, .agg #[.int .u64 x1, .int .i64 y1, .pointer none]), (15, .agg #[.int .u64 x2, .int .i64 y2, .pointer none])]).getD #[], ?_, ?_, ?_, ?_, ?_, ?_, ?_⟩
  all_goals kernel_rfl

theorem heap_new2 (w : World) (o1 o2 : Obj) : ((w.alloc o1).alloc o2).heap[w.heap.size + 1]? = some o2 := by
  have := heap_alloc_new (w.alloc o1) o2
  simpa using this

theorem ca_made {w2 : World} {cs : Array Value} {g nb na x1 y1 x2 y2 : Int} {crl : ByteArray} (hx : x1 = nb % 1000000000 ∧ y1 = nb / 1000000000 ∧ x2 = na % 1000000000 ∧ y2 = na / 1000000000)
    (hk : cs[34]? = some (.int .u64 x1) ∧ cs[35]? = some (.int .i64 y1) ∧ cs[36]? = some (.pointer none) ∧ cs[37]? = some (.int .u64 x2) ∧ cs[38]? = some (.int .i64 y2) ∧ cs[39]? = some (.pointer none)) :
    CAIs ((w2.alloc (.cells cs 83)).alloc (.cells #[.int .i64 g, .pointer (some ⟨w2.heap.size, 0, none⟩), .slice none 0 0, .nilIface, .string crl] 103)) (w2.heap.size + 1) g nb na crl := by
  obtain ⟨rfl, rfl, rfl, rfl⟩ := hx
  obtain ⟨k1, k2, k3, k4, k5, k6⟩ := hk
  refine ⟨w2.heap.size, ⟨by simp, ?_, ?_, ?_, ?_, ?_, _, _, heap_new2 _ _ _⟩, ⟨by simp; omega, ?_, ?_, ?_, ?_, ?_, ?_⟩⟩
  all_goals simp [*]

set_option maxHeartbeats 1000000 in
theorem new42 (g nb na : Int) (crl : ByteArray) (w : World) (h0 : -9223372036854775808 ≤ nb) (h1 : nb ≤ 9223372036854775807) (h2 : -9223372036854775808 ≤ na) (h3 : na ≤ 9223372036854775807) :
    Calls Try.prog 42 #[.int .i64 g, .int .i64 nb, .int .i64 na, .string crl] w (CAOut w g nb na crl) := by
  obtain ⟨x1, hx1⟩ : ∃ x, x = nb % 1000000000 := ⟨_, rfl⟩
  obtain ⟨y1, hy1⟩ : ∃ x, x = nb / 1000000000 := ⟨_, rfl⟩
  obtain ⟨x2, hx2⟩ : ∃ x, x = na % 1000000000 := ⟨_, rfl⟩
  obtain ⟨y2, hy2⟩ : ∃ x, x = na / 1000000000 := ⟨_, rfl⟩
  have C1 := fun w => at47 nb w h0 h1
  have C2 := fun w => at47 na w h2 h3
  have HC : Hid ((∀ w, Calls Try.prog 47 #[.int .i64 nb] w (TimeOut w x1 y1)) ∧ (∀ w, Calls Try.prog 47 #[.int .i64 na] w (TimeOut w x2 y2))) := by rw [hx1, hy1, hx2, hy2]; exact ⟨C1, C2⟩
  have HX : Hid (x1 = nb % 1000000000 ∧ y1 = nb / 1000000000 ∧ x2 = na % 1000000000 ∧ y2 = na / 1000000000) := ⟨hx1, hy1, hx2, hy2⟩
  clear C1 C2 hx1 hy1 hx2 hy2 h0 h1 h2 h3
  obtain ⟨cs, hcs, k34, k35, k36, k37, k38, k39⟩ := built83t x1 y1 x2 y2
  have HK : Hid (cs[34]? = some (.int .u64 x1) ∧ cs[35]? = some (.int .i64 y1) ∧ cs[36]? = some (.pointer none) ∧ cs[37]? = some (.int .u64 x2) ∧ cs[38]? = some (.int .i64 y2) ∧ cs[39]? = some (.pointer none)) := ⟨k34, k35, k36, k37, k38, k39⟩
  clear k34 k35 k36 k37 k38 k39
  go_enter Try.func42, Try.ntmps42
  go_wp2_with fail
  refine (HC.out.1 _).mono ?_
  rintro e w1 ⟨rfl, hb1⟩
  have B1 : Hid (Below w.heap.size w w1) := hb1
  clear hb1
  go_wp2_with fail
  refine (HC.out.2 _).mono ?_
  rintro e w2 ⟨rfl, hb2⟩
  have B2 : Hid (Below w.heap.size w w2) := B1.out.trans (hb2.mono B1.out.size)
  clear hb2
  go_wp2_with (refine wpList_build rfl 83 #[(14, .tmp 11), (15, .tmp 13)] rfl ?_ ?_)
  go_ret
  exact ⟨_, rfl, (B2.out.alloc B2.out.size _).alloc (by have := B2.out.size; simp; omega) _, by have := B2.out.size; omega, ca_made HX.out HK.out⟩

/-- Block s holds a set of the newest CA n and, as the value b says, one before it. -/
def SetT (w : World) (s n : Nat) (b : Value) : Prop :=
  s < w.heap.size ∧ w.cell? ⟨s, 0, none⟩ = some (.pointer (some ⟨n, 0, none⟩)) ∧ w.cell? ⟨s, 1, none⟩ = some b ∧ w.cell? ⟨s, 2, none⟩ = some (.pointer none)
theorem SetT.below {w w' : World} {s n : Nat} {b : Value} (h : SetT w s n b) (hb : Below w.heap.size w w') : SetT w' s n b := by
  obtain ⟨hk, h1, h2, h3⟩ := h
  refine ⟨Nat.lt_of_lt_of_le hk hb.size, ?_, ?_, ?_⟩
  · rw [hb.cell (p := ⟨s, 0, none⟩) hk]; exact h1
  · rw [hb.cell (p := ⟨s, 1, none⟩) hk]; exact h2
  · rw [hb.cell (p := ⟨s, 2, none⟩) hk]; exact h3

/-- A set without a CA before. -/
def SetNo (w0 w' : World) (s n : Nat) (g nb na : Int) (crl : ByteArray) : Prop :=
  Below w0.heap.size w0 w' ∧ SetT w' s n (.pointer none) ∧ CAIs w' n g nb na crl
/-- A set with one. -/
def SetYes (w0 w' : World) (s n b : Nat) (g nb na : Int) (crl : ByteArray) (g' nb' na' : Int) (crl' : ByteArray) : Prop :=
  Below w0.heap.size w0 w' ∧ SetT w' s n (.pointer (some ⟨b, 0, none⟩)) ∧ CAIs w' n g nb na crl ∧ CAIs w' b g' nb' na' crl' ∧ n ≠ b

theorem set_made {w : World} {n : Nat} {b : Value} : SetT (w.alloc (.cells #[.pointer (some ⟨n, 0, none⟩), b, .pointer none] 92)) w.heap.size n b := by
  refine ⟨by simp, ?_, ?_, ?_⟩ <;> simp

def Set3No (w : World) (g nb na : Int) (crl : ByteArray) (e : Ending) (w' : World) : Prop :=
  ∃ s n, e = .returned (.tuple #[.pointer (some ⟨s, 0, none⟩), .pointer (some ⟨n, 0, none⟩), .pointer none]) ∧ SetNo w w' s n g nb na crl
def Set3Yes (w : World) (g nb na : Int) (crl : ByteArray) (g' nb' na' : Int) (crl' : ByteArray) (e : Ending) (w' : World) : Prop :=
  ∃ s n b, e = .returned (.tuple #[.pointer (some ⟨s, 0, none⟩), .pointer (some ⟨n, 0, none⟩), .pointer (some ⟨b, 0, none⟩)]) ∧ SetYes w w' s n b g nb na crl g' nb' na' crl'

def inNs (x : Int) : Prop := -4611686018427387904 ≤ x ∧ x ≤ 4611686018427387904

set_option maxHeartbeats 1000000 in
theorem build28_no (g nb na : Int) (crl : ByteArray) (g' nb' na' : Int) (crl' : ByteArray) (w : World) (h1 : inNs nb) (h2 : inNs na) :
    Calls Try.prog 28 #[.int .i64 g, .int .i64 nb, .int .i64 na, .string crl, .bool false, .int .i64 g', .int .i64 nb', .int .i64 na', .string crl'] w (Set3No w g nb na crl) := by
  have H : Hid (∀ w, Calls Try.prog 42 #[.int .i64 g, .int .i64 nb, .int .i64 na, .string crl] w (CAOut w g nb na crl)) := fun w => new42 g nb na crl w (by unfold inNs at h1; omega) (by unfold inNs at h1; omega) (by unfold inNs at h2; omega) (by unfold inNs at h2; omega)
  clear h1 h2
  go_enter Try.func28, Try.ntmps28
  go_wp2_with fail
  refine (H.out _).mono ?_
  rintro e w1 ⟨n, rfl, hb1, hn, hc⟩
  have B1 : Hid (Below w.heap.size w w1 ∧ CAIs w1 n g nb na crl) := ⟨hb1, hc⟩
  clear hb1 hn hc
  go_wp2
  go_ret3
  have hA : Below w1.heap.size w1 (w1.alloc (.cells #[.pointer (some ⟨n, 0, none⟩), .pointer none, .pointer none] 92)) := (Below.refl _ _).alloc (Nat.le_refl _) _
  exact ⟨_, _, rfl, B1.out.1.trans (hA.mono B1.out.1.size), set_made, B1.out.2.below hA⟩

set_option maxHeartbeats 1000000 in
theorem build28_yes (g nb na : Int) (crl : ByteArray) (g' nb' na' : Int) (crl' : ByteArray) (w : World) (h1 : inNs nb) (h2 : inNs na) (h3 : inNs nb') (h4 : inNs na') :
    Calls Try.prog 28 #[.int .i64 g, .int .i64 nb, .int .i64 na, .string crl, .bool true, .int .i64 g', .int .i64 nb', .int .i64 na', .string crl'] w (Set3Yes w g nb na crl g' nb' na' crl') := by
  have H : Hid (∀ w, Calls Try.prog 42 #[.int .i64 g, .int .i64 nb, .int .i64 na, .string crl] w (CAOut w g nb na crl)) := fun w => new42 g nb na crl w (by unfold inNs at h1; omega) (by unfold inNs at h1; omega) (by unfold inNs at h2; omega) (by unfold inNs at h2; omega)
  have H' : Hid (∀ w, Calls Try.prog 42 #[.int .i64 g', .int .i64 nb', .int .i64 na', .string crl'] w (CAOut w g' nb' na' crl')) := fun w => new42 g' nb' na' crl' w (by unfold inNs at h3; omega) (by unfold inNs at h3; omega) (by unfold inNs at h4; omega) (by unfold inNs at h4; omega)
  clear h1 h2 h3 h4
  go_enter Try.func28, Try.ntmps28
  go_wp2_with fail
  refine (H.out _).mono ?_
  rintro e w1 ⟨n, rfl, hb1, hn, hc⟩
  have B1 : Hid (Below w.heap.size w w1 ∧ CAIs w1 n g nb na crl) := ⟨hb1, hc⟩
  clear hb1 hn hc
  go_wp2_with fail
  refine (H'.out _).mono ?_
  rintro e w2 ⟨b, rfl, hb2, hn2, hc2⟩
  have B2 : Hid (Below w.heap.size w w2 ∧ CAIs w2 n g nb na crl ∧ CAIs w2 b g' nb' na' crl' ∧ n ≠ b) := by
    refine ⟨B1.out.1.trans (hb2.mono B1.out.1.size), B1.out.2.below hb2, hc2, ?_⟩
    obtain ⟨k, h, _⟩ := B1.out.2
    have := h.1
    omega
  clear hb2 hn2 hc2
  go_wp2
  go_ret3
  have hA : Below w2.heap.size w2 (w2.alloc (.cells #[.pointer (some ⟨n, 0, none⟩), .pointer (some ⟨b, 0, none⟩), .pointer none] 92)) := (Below.refl _ _).alloc (Nat.le_refl _) _
  exact ⟨_, _, _, rfl, B2.out.1.trans (hA.mono B2.out.1.size), set_made, B2.out.2.1.below hA, B2.out.2.2.1.below hA, B2.out.2.2.2⟩

set_option maxHeartbeats 1000000 in
theorem with49 (c : Nat) (g nb na : Int) (crl url : ByteArray) (w : World) (h : CAIs w c g nb na crl) :
    Calls Try.prog 49 #[.pointer (some ⟨c, 0, none⟩), .string url] w (CAOut w g nb na url) := by
  obtain ⟨k, hc, ht⟩ := h
  have HT : Hid (CertT w k (nb % 1000000000) (nb / 1000000000) (na % 1000000000) (na / 1000000000)) := ht
  obtain ⟨hk, h0, h1, h2, h3, h4, _⟩ := hc
  clear ht
  go_enter Try.func49, Try.ntmps49
  go_wp2
  go_ret
  refine ⟨_, rfl, (Below.refl _ _).alloc (Nat.le_refl _) _, Nat.le_refl _, k, ⟨by simp, ?_, ?_, ?_, ?_, ?_, _, _, heap_alloc_new _ _⟩, HT.out.below ((Below.refl _ _).alloc (Nat.le_refl _) _)⟩
  all_goals simp

theorem get35 (c : Nat) (g nb na : Int) (crl : ByteArray) (w : World) (h : CAIs w c g nb na crl) :
    Calls Try.prog 35 #[.pointer (some ⟨c, 0, none⟩)] w fun e w' => e = .returned (.int .i64 g) ∧ w = w' := by
  obtain ⟨k, ⟨_, h0, _⟩, _⟩ := h
  go_enter Try.func35, Try.ntmps35
  go_wp2
  go_ret
  exact ⟨rfl, rfl⟩
theorem get36 (c : Nat) (g nb na : Int) (crl : ByteArray) (w : World) (h : CAIs w c g nb na crl) :
    Calls Try.prog 36 #[.pointer (some ⟨c, 0, none⟩)] w fun e w' => e = .returned (.string crl) ∧ w = w' := by
  obtain ⟨k, ⟨_, _, _, _, _, h4, _⟩, _⟩ := h
  go_enter Try.func36, Try.ntmps36
  go_wp2
  go_ret
  exact ⟨rfl, rfl⟩
set_option maxHeartbeats 1000000 in
theorem get37 (c : Nat) (g nb na : Int) (crl : ByteArray) (w : World) (h : CAIs w c g nb na crl) (h1 : inNs nb) :
    Calls Try.prog 37 #[.pointer (some ⟨c, 0, none⟩)] w (IntOut nb w) := by
  obtain ⟨k, ⟨_, _, c1, _⟩, ⟨_, t1, t2, t3, _⟩⟩ := h
  obtain ⟨x, hx⟩ : ∃ x, x = nb % 1000000000 := ⟨_, rfl⟩
  obtain ⟨y, hy⟩ : ∃ y, y = nb / 1000000000 := ⟨_, rfl⟩
  rw [← hx] at t1
  rw [← hy] at t2
  have HC : Hid (∀ w, Calls Try.prog 44 #[.agg #[.int .u64 x, .int .i64 y, .pointer none]] w (IntOut nb w)) := fun w => ns44 x y nb w (by omega) (by omega) (by omega) (by unfold inNs at h1; omega) (by unfold inNs at h1; omega)
  clear hx hy h1
  go_enter Try.func37, Try.ntmps37
  go_wp2_with fail
  refine (HC.out _).mono ?_
  rintro e w1 ⟨rfl, hb⟩
  have B : Hid (Below w.heap.size w w1) := hb
  clear hb
  go_wp2
  go_ret
  exact ⟨rfl, B.out⟩
set_option maxHeartbeats 1000000 in
theorem get38 (c : Nat) (g nb na : Int) (crl : ByteArray) (w : World) (h : CAIs w c g nb na crl) (h1 : inNs na) :
    Calls Try.prog 38 #[.pointer (some ⟨c, 0, none⟩)] w (IntOut na w) := by
  obtain ⟨k, ⟨_, _, c1, _⟩, ⟨_, _, _, _, t1, t2, t3⟩⟩ := h
  obtain ⟨x, hx⟩ : ∃ x, x = na % 1000000000 := ⟨_, rfl⟩
  obtain ⟨y, hy⟩ : ∃ y, y = na / 1000000000 := ⟨_, rfl⟩
  rw [← hx] at t1
  rw [← hy] at t2
  have HC : Hid (∀ w, Calls Try.prog 44 #[.agg #[.int .u64 x, .int .i64 y, .pointer none]] w (IntOut na w)) := fun w => ns44 x y na w (by omega) (by omega) (by omega) (by unfold inNs at h1; omega) (by unfold inNs at h1; omega)
  clear hx hy h1
  go_enter Try.func38, Try.ntmps38
  go_wp2_with fail
  refine (HC.out _).mono ?_
  rintro e w1 ⟨rfl, hb⟩
  have B : Hid (Below w.heap.size w w1) := hb
  clear hb
  go_wp2
  go_ret
  exact ⟨rfl, B.out⟩
theorem newest29 (s n : Nat) (b : Value) (w : World) (h : SetT w s n b) :
    Calls Try.prog 29 #[.pointer (some ⟨s, 0, none⟩)] w fun e w' => e = .returned (.pointer (some ⟨n, 0, none⟩)) ∧ w = w' := by
  obtain ⟨_, h0, _⟩ := h
  go_enter Try.func29, Try.ntmps29
  go_wp2
  go_ret
  exact ⟨rfl, rfl⟩
end Go.Proofs.Qxb6616928a
