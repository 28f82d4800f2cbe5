import Derived.Test.Qxb6616928aCertN
import Derived.Test.Qxb6616928aBaseU
import Derived.Deep.RegionLaw
import Derived.Deep.AppendLies
import Derived.Deep.DrawnRows
namespace Go.Proofs.Qxb6616928a
open Go.RowKit

theorem Try.info84 : (Try.prog.info? 84).map (fun i => (i.zero, i.size, i.bytes)) = some (some (.pointer none), 1, 8) := by kernel_rfl

/-- The loop of ZZHostCert: B the certificate's block, v what its field URIs holds behind k rounds. -/
def HRel (w : World) (B : Nat) (vn : Value) (S T : Nat → ByteArray) (k : Nat) (wr : World) : Prop :=
  Below w.heap.size w wr ∧ B < wr.heap.size ∧ wr.cell? ⟨B, 54, none⟩ = some vn ∧ wr.frozen? ⟨B, 57, none⟩ = false ∧
  ∃ (v : Value) (xs : List Value) (u : Nat → Nat), wr.cell? ⟨B, 57, none⟩ = some v ∧ wr.ownsRow (B + 1) 84 1 v k xs ∧
    ∀ i, i < k → xs[i]? = some (.pointer (some ⟨u i, 0, none⟩)) ∧ B < u i ∧ u i < wr.heap.size ∧ some (u i) ≠ v.ownBlock ∧ wr.cell? ⟨u i, 0, none⟩ = some (.string (S i)) ∧ wr.cell? ⟨u i, 4, none⟩ = some (.string (T i))

theorem news_two (wr : World) (U : Obj) (p : Value) : ∀ (j : Nat) (u : Value), ([p] : List Value)[j]? = some u → ((wr.alloc U).alloc (.cells #[p] 84)).drew.cell? ((⟨wr.heap.size + 1, 0, none⟩ : Addr).add j) = some u := by
  intro j u hj
  match j, hj with
  | 0, hj =>
    simp at hj
    subst hj
    show ((wr.alloc U).alloc (.cells #[p] 84)).cell? _ = _
    have e : (⟨wr.heap.size + 1, 0, none⟩ : Addr).add 0 = ⟨(wr.alloc U).heap.size, 0, none⟩ := by simp [Addr.add]
    rw [e, World.cell?_alloc_new]
    rfl

theorem own_range {w : World} {base : Nat} {e : TypeId} {size : Nat} {v : Value} {n : Nat} {xs : List Value} (h : w.ownsRow base e size v n xs) {r : Nat} (hr : v.ownBlock = some r) : base ≤ r ∧ r < w.heap.size := by
  rcases h.2 with ⟨rfl, _⟩ | ⟨g, cap, cur, rfl, hb, hg, _⟩
  · simp [Value.ownBlock] at hr
  · simp [Value.ownBlock] at hr
    subst hr
    exact ⟨hb, (Array.getElem?_eq_some_iff.1 hg).1⟩

theorem after_append {wr w1 : World} {U C : Obj} {row : Option Nat} {B : Nat} (hg : ((wr.alloc U).alloc C).drew.grownBy w1 row) (hB : B < wr.heap.size) (hne : some B ≠ row) (j : Nat) :
    w1.cell? ⟨B, j, none⟩ = wr.cell? ⟨B, j, none⟩ ∧ w1.frozen? ⟨B, j, none⟩ = wr.frozen? ⟨B, j, none⟩ := by
  have hz : B < ((wr.alloc U).alloc C).drew.heap.size := by simp; omega
  have e : ((wr.alloc U).alloc C).heap[B]? = wr.heap[B]? := by rw [Below.heap_alloc _ _ _ (by simp; omega), Below.heap_alloc _ _ _ hB]
  exact ⟨(hg.cell_far ⟨B, j, none⟩ hz hne).trans (World.cell?_of_block (w := wr) (a := ⟨B, j, none⟩) e), (hg.frozen_far ⟨B, j, none⟩ hz hne).trans (World.frozen?_of_block (w := wr) (a := ⟨B, j, none⟩) e)⟩

theorem after_new {wr w1 : World} {cs : Array Value} {t : TypeId} {C : Obj} {row : Option Nat} (hg : ((wr.alloc (.cells cs t)).alloc C).drew.grownBy w1 row) (hne : some wr.heap.size ≠ row) (j : Nat) :
    w1.cell? ⟨wr.heap.size, j, none⟩ = cs[j]? := by
  have hz : wr.heap.size < ((wr.alloc (.cells cs t)).alloc C).drew.heap.size := by simp; omega
  rw [hg.cell_far ⟨wr.heap.size, j, none⟩ hz hne]
  show ((wr.alloc (.cells cs t)).alloc C).cell? _ = _
  simp

theorem HRel.step {w wr w1 : World} {B k g cap : Nat} {vn v : Value} {S T : Nat → ByteArray} {xs : List Value} {u : Nat → Nat} {cs : Array Value} {C : Obj}
    (hbel : Below w.heap.size w wr) (hwB : w.heap.size ≤ B) (hB : B < wr.heap.size) (hv : wr.cell? ⟨B, 54, none⟩ = some vn) (hfz : wr.frozen? ⟨B, 57, none⟩ = false) (hcv : wr.cell? ⟨B, 57, none⟩ = some v) (hown : wr.ownsRow (B + 1) 84 1 v k xs)
    (hu : ∀ i, i < k → xs[i]? = some (.pointer (some ⟨u i, 0, none⟩)) ∧ B < u i ∧ u i < wr.heap.size ∧ some (u i) ≠ v.ownBlock ∧ wr.cell? ⟨u i, 0, none⟩ = some (.string (S i)) ∧ wr.cell? ⟨u i, 4, none⟩ = some (.string (T i)))
    (h0 : cs[0]? = some (.string (S k))) (h4 : cs[4]? = some (.string (T k)))
    (hown1 : w1.ownsRow (B + 1) 84 1 (.slice (some ⟨g, 0, none⟩) (k + 1) cap) (k + 1) (xs ++ [.pointer (some ⟨wr.heap.size, 0, none⟩)]))
    (hgrow : ((wr.alloc (.cells cs 88)).alloc C).drew.grownBy w1 v.ownBlock) (hat : v.ownBlock = some g ∨ g = wr.heap.size + 2) :
    HRel w B vn S T (k + 1) (w1.setCell ⟨B, 57, none⟩ (.slice (some ⟨g, 0, none⟩) (k + 1) cap)) := by
  have hl := hown.1
  have hzz : wr.heap.size + 2 ≤ w1.heap.size := by have := hgrow.size; simp at this; omega
  have hneB : some B ≠ v.ownBlock := fun e => by have := (own_range hown e.symm).1; omega
  have hneN : some wr.heap.size ≠ v.ownBlock := fun e => by have := (own_range hown e.symm).2; omega
  have q := after_append hgrow hB hneB
  have hS := hbel.size
  refine ⟨((((hbel.alloc hS _).alloc (by simp; omega) _).drew).grown hgrow (by simp; omega) (fun r hr => by have := (own_range hown hr).1; omega)).setCell hwB _, by simp; omega, ?_, ?_, ?_⟩
  · rw [World.cell?_setCell_other _ _ _ _ (by simp), (q 54).1]; exact hv
  · rw [World.frozen?_setCell, (q 57).2]; exact hfz
  refine ⟨_, _, fun i => if i = k then wr.heap.size else u i, World.cell?_setCell_same _ _ _ ((q 57).1.trans hcv), ownsRow_setCell_below hown1 (Nat.lt_succ_self _) _, fun i hi => ?_⟩
  show _ ∧ B < (if i = k then wr.heap.size else u i) ∧ (if i = k then wr.heap.size else u i) < _ ∧ some (if i = k then wr.heap.size else u i) ≠ some g ∧ World.cell? _ ⟨if i = k then wr.heap.size else u i, 0, none⟩ = _ ∧ World.cell? _ ⟨if i = k then wr.heap.size else u i, 4, none⟩ = _
  by_cases e : i = k
  · subst e
    rw [if_pos rfl]
    have n0 := after_new hgrow hneN 0
    have n4 := after_new hgrow hneN 4
    refine ⟨by rw [List.getElem?_append_right (by omega)]; simp [hl], hB, by simp; omega, ?_, ?_, ?_⟩
    · rcases hat with h | h
      · have := (own_range hown h).2; simp; omega
      · simp; omega
    · rw [World.cell?_setCell_other _ _ _ _ (by simp), n0]; exact h0
    · rw [World.cell?_setCell_other _ _ _ _ (by simp), n4]; exact h4
  · rw [if_neg e]
    obtain ⟨u1, u2, u3, u4, u5, u6⟩ := hu i (by omega)
    have q' := after_append hgrow u3 u4
    refine ⟨by rw [List.getElem?_append_left (by omega)]; simpa [e] using u1, u2, by simp; omega, ?_, ?_, ?_⟩
    · rcases hat with h | h
      · rw [← h]; exact u4
      · simp; omega
    · rw [World.cell?_setCell_other _ _ _ _ (by simp), (q' 0).1]; exact u5
    · rw [World.cell?_setCell_other _ _ _ _ (by simp), (q' 4).1]; exact u6

attribute [local go_sem ↓] Go.wp_at_zero Go.wp_at_succ

set_option maxRecDepth 100000 in
set_option maxHeartbeats 4000000 in
theorem cert14 (a0 : Option Addr) (n0 c0 : Nat) (a1 : Option Addr) (n c1 : Nat) (S : Nat → ByteArray) (a2 : Option Addr) (c2 : Nat) (T : Nat → ByteArray) (w : World)
    (h1 : StrsAt w a1 n S) (h2 : StrsAt w a2 n T) (hn : n ≤ 4194305) :
    Calls Try.prog 14 #[.slice a0 n0 c0, .slice a1 n c1, .slice a2 n c2] w (CertOut w (.slice a0 n0 c0) n S T) := by
  obtain ⟨cs, hcs, h54, h57⟩ := built83 a0 n0 c0
  have H1 : Hid (StrsAt w a1 n S) := h1
  have H2 : Hid (StrsAt w a2 n T) := h2
  clear h1 h2
  obtain ⟨i0, hi, hz0, hz1, hz2⟩ := info_parts Try.info84
  have HI : Hid (Try.prog.info? 84 = some i0 ∧ i0.zero = some (.pointer none) ∧ i0.size = 1 ∧ i0.bytes = 8) := ⟨hi, hz0, hz1, hz2⟩
  clear hi hz0 hz1 hz2
  have FZ : (w.alloc (.cells cs 83)).frozen? ⟨w.heap.size, 57, none⟩ = false := by simp
  have START : HRel w w.heap.size (.slice a0 n0 c0) S T 0 (w.alloc (.cells cs 83)) :=
    ⟨(Below.refl _ _).alloc (Nat.le_refl _) _, by simp, by simp [h54], FZ, .slice none 0 0, [], fun _ => 0, by simp [h57], World.ownsRow_nil _ _ _ _, fun i hi => by omega⟩
  go_enter Try.func14, Try.ntmps14
  go_wp2_with (refine wpList_build rfl 83 #[(30, .tmp 9)] rfl ?_ ?_)
  go_loopw [8] (fun i wr => ∃ k : Nat, k ≤ n ∧ i = .int .i64 k ∧ HRel w w.heap.size (.slice a0 n0 c0) S T k wr) (fun i _ => n - (intOf i).toNat)
  case atStart => exact ⟨0, Nat.zero_le _, rfl, START⟩
  case round =>
    obtain ⟨k, hk, rfl, R⟩ := hrel
    clear START hcs h54 h57
    obtain ⟨hbel, hB, hv, hfz, v, xs, u, hcv, hown, hu⟩ := R
    by_cases hlt : k < n
    · obtain ⟨b1, o1, rfl, hb1, hc1⟩ := H1.out k hlt
      obtain ⟨b2, o2, rfl, hb2, hc2⟩ := H2.out k hlt
      have e1 : wr.cell? ⟨b1, o1 + k, none⟩ = some (.string (S k)) := by rw [hbel.cell (p := ⟨b1, o1 + k, none⟩) hb1]; exact hc1
      have e2 : wr.cell? ⟨b2, o2 + k, none⟩ = some (.string (T k)) := by rw [hbel.cell (p := ⟨b2, o2 + k, none⟩) hb2]; exact hc2
      have l1 : b1 < wr.heap.size := Nat.lt_of_lt_of_le hb1 hbel.size
      have l2 : b2 < wr.heap.size := Nat.lt_of_lt_of_le hb2 hbel.size
      have hI : (k : Int) < (n : Int) := by omega
      have HO : Hid (wr.ownsRow (w.heap.size + 1) 84 1 v k xs) := hown
      have HN : Hid (some w.heap.size ≠ v.ownBlock) := fun e => by have := (own_range hown e.symm).1; omega
      have HU : Hid (∀ i, i < k → xs[i]? = some (.pointer (some ⟨u i, 0, none⟩)) ∧ w.heap.size < u i ∧ u i < wr.heap.size ∧ some (u i) ≠ v.ownBlock ∧ wr.cell? ⟨u i, 0, none⟩ = some (.string (S i)) ∧ wr.cell? ⟨u i, 4, none⟩ = some (.string (T i))) := hu
      clear hc1 hc2 hu hown
      go_wp2
      go_region_law ((refine step_append_lies _ (by rfl) _ _ _ (by rfl) (w.heap.size + 1) 84 i0 _ 1 8 Try.underlying78 HI.out.1 HI.out.2.1 HI.out.2.2.1 HI.out.2.2.2 rfl (by omega) v k xs (by rfl) (by exact ((HO.out.alloc _).alloc _).drew) ⟨wr.heap.size + 1, 0, none⟩ 1 1 [.pointer (some ⟨wr.heap.size, 0, none⟩)] (by rfl) (by rfl) (by exact news_two _ _ _) (by simp [Value.oneCell']) (by omega) (by unfold maxLen; omega) (by omega) (by simp; omega) (wr.heap.size + 2) (by simp) ?_; intro g cap w1 hown1 hgrow hat hgl; have q57 := after_append hgrow hB HN.out 57; have cW : w1.cell? ⟨w.heap.size, 57, none⟩ = some v := q57.1.trans hcv; have fW : w1.frozen? ⟨w.heap.size, 57, none⟩ = false := q57.2.trans hfz; have ST : HRel w w.heap.size (.slice a0 n0 c0) S T (k + 1) (w1.setCell ⟨w.heap.size, 57, none⟩ (.slice (some ⟨g, 0, none⟩) (k + 1) cap)) := HRel.step hbel (Nat.le_refl _) hB hv hfz hcv HO.out HU.out rfl rfl hown1 hgrow hat; clear q57 hown1 hgrow hat hgl))
      all_goals
        go_wp2
        go_roundw
        case rel => exact ⟨k + 1, by omega, by go_num, ST⟩
        case measure => simp [intOf]; omega
    · have hkn : k = n := by omega
      subst hkn
      have FIN : Hid (CertOut w (.slice a0 n0 c0) k S T (.returned (.pointer (some ⟨w.heap.size, 0, none⟩))) wr) := by
        refine ⟨_, rfl, hbel, hB, hv, ?_⟩
        rcases hown.2 with ⟨rfl, hk0⟩ | ⟨g, cap, cur, rfl, hbg, hg, _⟩
        · subst hk0
          exact ⟨none, 0, hcv, fun i hi => by omega⟩
        · refine ⟨_, _, hcv, fun i hi => ?_⟩
          obtain ⟨u1, u2, u3, u4, u5, u6⟩ := hu i hi
          have hc := hown.cellAt i (by omega)
          rw [u1] at hc
          exact ⟨g, 0, u i, rfl, (Array.getElem?_eq_some_iff.1 hg).1, u3, by simpa using hc, u5, u6⟩
      clear hown hu hcv hv hfz hbel hB
      go_wp2
      go_ret
      exact FIN.out
end Go.Proofs.Qxb6616928a
