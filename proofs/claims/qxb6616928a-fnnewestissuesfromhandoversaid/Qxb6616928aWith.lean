import Derived.Test.Qxb6616928aCA
namespace Go.Proofs.Qxb6616928a
open Go.RowKit

theorem CAT.other {w : World} {c k : Nat} {g : Int} {crl : ByteArray} (h : CAT w c g k crl) {a : Addr} (ha : a.block ≠ c) (v : Value) : CAT (w.setCell a v) c g k crl := by
  obtain ⟨hk, h1, h2, h3, h4, h5, cs, t, h6⟩ := h
  have q : ∀ j, (w.setCell a v).cell? ⟨c, j, none⟩ = w.cell? ⟨c, j, none⟩ := fun j => World.cell?_setCell_other _ _ _ _ (fun e => ha (by rw [e]))
  exact ⟨by simpa using hk, by rw [q]; exact h1, by rw [q]; exact h2, by rw [q]; exact h3, by rw [q]; exact h4, by rw [q]; exact h5, cs, t, by rw [Below.heap_setCell _ _ _ _ (Ne.symm ha)]; exact h6⟩
theorem CertT.other {w : World} {k : Nat} {x1 y1 x2 y2 : Int} (h : CertT w k x1 y1 x2 y2) {a : Addr} (ha : a.block ≠ k) (v : Value) : CertT (w.setCell a v) k x1 y1 x2 y2 := by
  obtain ⟨hk, h1, h2, h3, h4, h5, h6⟩ := h
  have q : ∀ j, (w.setCell a v).cell? ⟨k, j, none⟩ = w.cell? ⟨k, j, none⟩ := fun j => World.cell?_setCell_other _ _ _ _ (fun e => ha (by rw [e]))
  exact ⟨by simpa using hk, by rw [q]; exact h1, by rw [q]; exact h2, by rw [q]; exact h3, by rw [q]; exact h4, by rw [q]; exact h5, by rw [q]; exact h6⟩

/-- What comes back is a new CA over the same certificate. -/
def CAOutK (w : World) (g : Int) (k : Nat) (crl : ByteArray) (e : Ending) (w' : World) : Prop :=
  ∃ c, e = .returned (.pointer (some ⟨c, 0, none⟩)) ∧ Below w.heap.size w w' ∧ w.heap.size ≤ c ∧ CAT w' c g k crl

set_option maxHeartbeats 1000000 in
theorem with49k (c k : Nat) (g : Int) (crl url : ByteArray) (w : World) (h : CAT w c g k crl) :
    Calls Try.prog 49 #[.pointer (some ⟨c, 0, none⟩), .string url] w (CAOutK w g k url) := by
  obtain ⟨hk, h0, h1, h2, h3, h4, _⟩ := h
  go_enter Try.func49, Try.ntmps49
  go_wp2
  go_ret
  refine ⟨_, rfl, (Below.refl _ _).alloc (Nat.le_refl _) _, Nat.le_refl _, ⟨by simp, ?_, ?_, ?_, ?_, ?_, _, _, heap_alloc_new _ _⟩⟩
  all_goals simp

/-- Behind a call: the three cells of the block that was laid last before it. -/
theorem slot3 {w w1 : World} {a b c : Value} {t : TypeId} (hb : Below (w.alloc (.cells #[a, b, c] t)).heap.size (w.alloc (.cells #[a, b, c] t)) w1) :
    w1.cell? ⟨w.heap.size, 0, none⟩ = some a ∧ w1.cell? ⟨w.heap.size, 1, none⟩ = some b ∧ w1.cell? ⟨w.heap.size, 2, none⟩ = some c ∧
    w1.frozen? ⟨w.heap.size, 0, none⟩ = false ∧ w1.frozen? ⟨w.heap.size, 1, none⟩ = false ∧ w.heap.size < w1.heap.size ∧ Below w.heap.size w w1 := by
  have hz := hb.size
  simp only [World.size_alloc] at hz hb
  have hl : w.heap.size < w.heap.size + 1 := Nat.lt_succ_self _
  refine ⟨?_, ?_, ?_, ?_, ?_, by omega, ((Below.refl _ _).alloc (Nat.le_refl _) _).trans (hb.mono (Nat.le_succ _))⟩
  · rw [hb.cell (p := ⟨w.heap.size, 0, none⟩) hl]; simp
  · rw [hb.cell (p := ⟨w.heap.size, 1, none⟩) hl]; simp
  · rw [hb.cell (p := ⟨w.heap.size, 2, none⟩) hl]; simp
  · rw [hb.frozen (p := ⟨w.heap.size, 0, none⟩) hl]; simp
  · rw [hb.frozen (p := ⟨w.heap.size, 1, none⟩) hl]; simp

def WithNo (w : World) (g nb na : Int) (url : ByteArray) (e : Ending) (w' : World) : Prop :=
  ∃ s n, e = .returned (.pointer (some ⟨s, 0, none⟩)) ∧ SetNo w w' s n g nb na url ∧ w.heap.size ≤ n
def WithYes (w : World) (g nb na : Int) (g' nb' na' : Int) (url : ByteArray) (e : Ending) (w' : World) : Prop :=
  ∃ s n b, e = .returned (.pointer (some ⟨s, 0, none⟩)) ∧ SetYes w w' s n b g nb na url g' nb' na' url ∧ w.heap.size ≤ n ∧ w.heap.size ≤ b

set_option maxHeartbeats 2000000 in
theorem with34_no (s n : Nat) (g nb na : Int) (crl url : ByteArray) (w : World) (hs : SetT w s n (.pointer none)) (hn : CAIs w n g nb na crl) :
    Calls Try.prog 34 #[.pointer (some ⟨s, 0, none⟩), .string url] w (WithNo w g nb na url) := by
  obtain ⟨k, hc, ht⟩ := hn
  have HC : Hid (CAT w n g k crl ∧ CertT w k (nb % 1000000000) (nb / 1000000000) (na % 1000000000) (na / 1000000000)) := ⟨hc, ht⟩
  obtain ⟨hsl, s0, s1, s2⟩ := hs
  clear hc ht
  go_enter Try.func34, Try.ntmps34
  go_wp2_with fail
  refine (with49k n k g crl url _ (HC.out.1.below ((Below.refl _ _).alloc (Nat.le_refl _) _))).mono ?_
  rintro e w1 ⟨n', rfl, hb1, hn1, hc1⟩
  obtain ⟨p0, p1, p2, f0, f1, hz, hbw⟩ := slot3 hb1
  have t1 : w1.cell? ⟨s, 1, none⟩ = some (.pointer none) := by rw [hbw.cell (p := ⟨s, 1, none⟩) hsl]; exact s1
  have hkl : k < w.heap.size := HC.out.2.1
  have hn1' : w.heap.size + 1 ≤ n' := by simpa using hn1
  have FIN : Hid (SetNo w (w1.setCell ⟨w.heap.size, 0, none⟩ (.pointer (some ⟨n', 0, none⟩))) w.heap.size n' g nb na url ∧ w.heap.size ≤ n') := by
    refine ⟨⟨hbw.setCell (Nat.le_refl _) _, ⟨by simpa using hz, World.cell?_setCell_same _ _ _ p0, by rw [World.cell?_setCell_other _ _ _ _ (by simp)]; exact p1, by rw [World.cell?_setCell_other _ _ _ _ (by simp)]; exact p2⟩, k, hc1.other (by simp; omega) _, (HC.out.2.below hbw).other (by simp; omega) _⟩, by omega⟩
  clear hb1 hn1 hc1 hbw hn1'
  go_wp2
  go_ret
  exact ⟨_, _, rfl, FIN.out⟩

set_option maxHeartbeats 2000000 in
theorem with34_yes (s n b : Nat) (g nb na : Int) (crl : ByteArray) (g' nb' na' : Int) (crl' : ByteArray) (url : ByteArray) (w : World) (hs : SetT w s n (.pointer (some ⟨b, 0, none⟩))) (hn : CAIs w n g nb na crl) (hb : CAIs w b g' nb' na' crl') :
    Calls Try.prog 34 #[.pointer (some ⟨s, 0, none⟩), .string url] w (WithYes w g nb na g' nb' na' url) := by
  obtain ⟨k, hc, ht⟩ := hn
  obtain ⟨k', hc', ht'⟩ := hb
  have HC : Hid (CAT w n g k crl ∧ CertT w k (nb % 1000000000) (nb / 1000000000) (na % 1000000000) (na / 1000000000)) := ⟨hc, ht⟩
  have HC' : Hid (CAT w b g' k' crl' ∧ CertT w k' (nb' % 1000000000) (nb' / 1000000000) (na' % 1000000000) (na' / 1000000000)) := ⟨hc', ht'⟩
  obtain ⟨hsl, s0, s1, s2⟩ := hs
  clear hc ht hc' ht'
  go_enter Try.func34, Try.ntmps34
  go_wp2_with fail
  refine (with49k n k g crl url _ (HC.out.1.below ((Below.refl _ _).alloc (Nat.le_refl _) _))).mono ?_
  rintro e w1 ⟨n', rfl, hb1, hn1, hc1⟩
  obtain ⟨p0, p1, p2, f0, f1, hz, hbw⟩ := slot3 hb1
  have t1 : w1.cell? ⟨s, 1, none⟩ = some (.pointer (some ⟨b, 0, none⟩)) := by rw [hbw.cell (p := ⟨s, 1, none⟩) hsl]; exact s1
  have HK : Hid (k < w.heap.size ∧ k' < w.heap.size ∧ w.heap.size + 1 ≤ n' ∧ n' < w1.heap.size ∧ w.heap.size < w1.heap.size) := ⟨HC.out.2.1, HC'.out.2.1, by simpa using hn1, hc1.1, hz⟩
  have H1 : Hid (Below w.heap.size w w1 ∧ CAT w1 n' g k url) := ⟨hbw, hc1⟩
  clear hb1 hn1 hc1 hbw
  go_wp2_with fail
  have H2 : Hid (Below w.heap.size w (w1.setCell ⟨w.heap.size, 0, none⟩ (.pointer (some ⟨n', 0, none⟩)))) := H1.out.1.setCell (Nat.le_refl _) _
  refine (with49k b k' g' crl' url _ (HC'.out.1.below H2.out)).mono ?_
  rintro e w3 ⟨b', rfl, hb3, hn3, hc3⟩
  have hz3 : w1.heap.size ≤ w3.heap.size := by have := hb3.size; simpa using this
  have hlt : w.heap.size < (w1.setCell ⟨w.heap.size, 0, none⟩ (.pointer (some ⟨n', 0, none⟩))).heap.size := by simpa using hz
  have r0 : w3.cell? ⟨w.heap.size, 0, none⟩ = some (.pointer (some ⟨n', 0, none⟩)) := by rw [hb3.cell (p := ⟨w.heap.size, 0, none⟩) hlt]; exact World.cell?_setCell_same _ _ _ p0
  have r1 : w3.cell? ⟨w.heap.size, 1, none⟩ = some (.pointer (some ⟨b, 0, none⟩)) := by rw [hb3.cell (p := ⟨w.heap.size, 1, none⟩) hlt, World.cell?_setCell_other _ _ _ _ (by simp)]; exact p1
  have r2 : w3.cell? ⟨w.heap.size, 2, none⟩ = some (.pointer none) := by rw [hb3.cell (p := ⟨w.heap.size, 2, none⟩) hlt, World.cell?_setCell_other _ _ _ _ (by simp)]; exact p2
  have r3 : w3.frozen? ⟨w.heap.size, 1, none⟩ = false := by rw [hb3.frozen (p := ⟨w.heap.size, 1, none⟩) hlt, World.frozen?_setCell]; exact f1
  have hbb : w1.heap.size ≤ b' := by simpa using hn3
  have A3 : Below w.heap.size w w3 := H2.out.trans (hb3.mono H2.out.size)
  have CN : CAT w3 n' g k url := (H1.out.2.other (a := ⟨w.heap.size, 0, none⟩) (by have := HK.out.2.2.1; simp; omega) _).below hb3
  have FIN : Hid (SetYes w (w3.setCell ⟨w.heap.size, 1, none⟩ (.pointer (some ⟨b', 0, none⟩))) w.heap.size n' b' g nb na url g' nb' na' url ∧ w.heap.size ≤ n' ∧ w.heap.size ≤ b') := by
    obtain ⟨e1, e2, e3, e4, e5⟩ := HK.out
    refine ⟨⟨A3.setCell (Nat.le_refl _) _, ⟨by simp; omega, by rw [World.cell?_setCell_other _ _ _ _ (by simp)]; exact r0, World.cell?_setCell_same _ _ _ r1, by rw [World.cell?_setCell_other _ _ _ _ (by simp)]; exact r2⟩,
      ⟨k, CN.other (by simp; omega) _, (HC.out.2.below A3).other (by simp; omega) _⟩, ⟨k', hc3.other (by simp; omega) _, (HC'.out.2.below A3).other (by simp; omega) _⟩, by omega⟩, by omega, by omega⟩
  clear hb3 hn3 hc3 hbb A3 CN hlt
  go_wp2
  go_ret
  exact ⟨_, _, _, rfl, FIN.out⟩
end Go.Proofs.Qxb6616928a
