import Derived.Test.Qxb6616928aBase
namespace Go.Proofs.Qxb6616928a
open Go.RowKit

/-- The first k of the strings J lie in a row of the call's own, which has room for cap; nothing below B has turned. -/
def JRel (w : World) (cap : Nat) (J : Nat → ByteArray) (k : Nat) (wr : World) : Prop :=
  ∃ xs : List Value, wr.ownsRow w.heap.size 9 1 (.slice (some ⟨w.heap.size, 0, none⟩) k cap) k xs ∧ (∀ i, i < k → xs[i]? = some (.string (J i))) ∧ Below w.heap.size w wr

theorem JRel.step {w wr w1 : World} {cap k : Nat} {J : Nat → ByteArray} {xs : List Value} {s : ByteArray} {o : Obj} (hown : wr.ownsRow w.heap.size 9 1 (.slice (some ⟨w.heap.size, 0, none⟩) k cap) k xs) (hx : ∀ i, i < k → xs[i]? = some (.string (J i))) (hb : Below w.heap.size w wr)
    (hs : J k = s) (hown1 : w1.ownsRow w.heap.size 9 1 (.slice (some ⟨w.heap.size, 0, none⟩) (k + 1) cap) (k + 1) (xs ++ [.string s])) (hg : (wr.alloc o).grownBy w1 (some w.heap.size)) : JRel w cap J (k + 1) w1 := by
  have hl := hown.1
  refine ⟨_, hown1, fun i hi => ?_, (hb.alloc hb.size o).grown hg (by have := hb.size; simp; omega) (by simp)⟩
  rw [List.getElem?_append]
  by_cases e : i < k
  · rw [if_pos (by omega)]; exact hx i e
  · have : i = k := by omega
    subst this
    rw [if_neg (by omega)]
    simp [hl, hs]

def joinF (S0 : Nat → ByteArray) (n0 : Nat) (d : ByteArray) (S2 : Nat → ByteArray) (i : Nat) : ByteArray := if i < n0 then S0 i else if i = n0 then d else S2 (i - n0 - 1)

set_option maxHeartbeats 1000000 in
theorem join24 (a0 : Option Addr) (n0 c0 : Nat) (S0 : Nat → ByteArray) (d : ByteArray) (a2 : Option Addr) (n2 c2 : Nat) (S2 : Nat → ByteArray) (w : World)
    (h0 : StrsAt w a0 n0 S0) (h2 : StrsAt w a2 n2 S2) (m0 : n0 ≤ 1048576) (m2 : n2 ≤ 1048576) :
    Calls Try.prog 24 #[.slice a0 n0 c0, .string d, .slice a2 n2 c2] w (StrsOut w (n0 + 1 + n2) (joinF S0 n0 d S2)) := by
  have H0 : Hid (StrsAt w a0 n0 S0) := h0
  have H2 : Hid (StrsAt w a2 n2 S2) := h2
  obtain ⟨J, hJ⟩ : ∃ J, J = joinF S0 n0 d S2 := ⟨_, rfl⟩
  rw [← hJ]
  have J0 : Hid (∀ i, i < n0 → J i = S0 i) := fun i hi => by rw [hJ]; simp [joinF, hi]
  have J1 : Hid (J n0 = d) := by rw [hJ]; simp [joinF, Hid]
  have J2 : Hid (∀ i, J (n0 + 1 + i) = S2 i) := fun i => by rw [hJ]; unfold joinF; rw [if_neg (by omega), if_neg (by omega)]; congr 1; omega
  clear h0 h2 hJ
  obtain ⟨i0, hi, hz0, hz1, hz2⟩ := info_parts Try.info9
  have HI : Hid (Try.prog.info? 9 = some i0 ∧ i0.size = 1) := ⟨hi, hz1⟩
  go_enter Try.func24, Try.ntmps24
  go_wp2_with (at_make; refine wpList_make_own _ rfl _ _ 25 rfl w.heap.size 9 i0 (.string ByteArray.empty) 1 Try.underlying25 hi hz0 hz1 _ _ _ (n0 + 1 + n2) rfl rfl ?c0 ?c1 ?c2 ?c3 ?_)
  case c0 => omega
  case c1 => rw [hz2]; omega
  case c2 => unfold maxLen; omega
  case c3 => exact Nat.le_refl _
  intro w1 hown hgrow
  have hb1 : Below w.heap.size w w1 := (Below.refl _ _).grown hgrow (Nat.le_refl _) (by simp)
  have REL : JRel w (n0 + 1 + n2) J 0 w1 := ⟨_, hown, fun i hi => by omega, hb1⟩
  clear hown hgrow hb1 hi hz0 hz1 hz2
  go_wp2
  go_loopw [7, 8] (fun v i wr => ∃ k : Nat, k ≤ n0 ∧ i = .int .i64 k ∧ v = .slice (some ⟨w.heap.size, 0, none⟩) k (n0 + 1 + n2) ∧ JRel w (n0 + 1 + n2) J k wr) (fun _ i _ => n0 - (intOf i).toNat)
  case atStart => exact ⟨0, Nat.zero_le _, rfl, rfl, REL⟩
  case round =>
    obtain ⟨k, hk, rfl, rfl, R⟩ := hrel
    obtain ⟨xs, hown, hx, hb⟩ := R
    by_cases hlt : k < n0
    · obtain ⟨b, o, rfl, hbl, hc⟩ := H0.out k hlt
      have hc' : wr.cell? ⟨b, o + k, none⟩ = some (.string (S0 k)) := by rw [hb.cell (p := ⟨b, o + k, none⟩) hbl]; exact hc
      clear hc
      go_wp2_with (at_builtin; refine wpList_append_fits _ rfl (.tmp 23) (.tmp 28) 25 rfl w.heap.size 9 i0 1 Try.underlying25 HI.out.1 HI.out.2 w.heap.size k (n0 + 1 + n2) xs rfl (hown.alloc _) ⟨wr.heap.size, 0, none⟩ 1 1 [.string (S0 k)] rfl rfl ?d1 ?d2 ?d3 ?_)
      case d1 =>
        intro j u hj
        match j, hj with
        | 0, hj => simp at hj; subst hj; simp [Addr.add]
      case d2 => intro u hu; simp at hu; subst hu; rfl
      case d3 => omega
      intro w2 hown2 hg2
      have R2 := JRel.step hown hx hb (J0.out k hlt) hown2 hg2
      clear hown hx hb hown2 hg2 hc'
      go_wp2
      go_roundw
      case rel => exact ⟨k + 1, by omega, by go_num, rfl, R2⟩
      case measure => simp [intOf]; omega
    · have hkn : k = n0 := by omega
      subst hkn
      go_wp2_with (at_builtin; refine wpList_append_fits _ rfl (.tmp 30) (.tmp 32) 25 rfl w.heap.size 9 i0 1 Try.underlying25 HI.out.1 HI.out.2 w.heap.size k (k + 1 + n2) xs rfl (hown.alloc _) ⟨wr.heap.size, 0, none⟩ 1 1 [.string d] rfl rfl ?d1 ?d2 ?d3 ?_)
      case d1 =>
        intro j u hj
        match j, hj with
        | 0, hj => simp at hj; subst hj; simp [Addr.add]
      case d2 => intro u hu; simp at hu; subst hu; rfl
      case d3 => omega
      intro w2 hown2 hg2
      have R2 := JRel.step hown hx hb J1.out hown2 hg2
      clear hown hx hb hown2 hg2
      go_wp2
      go_loopw [7, 9] (fun v i wr => ∃ k' : Nat, k' ≤ n2 ∧ i = .int .i64 k' ∧ v = .slice (some ⟨w.heap.size, 0, none⟩) (k + 1 + k') (k + 1 + n2) ∧ JRel w (k + 1 + n2) J (k + 1 + k') wr) (fun _ i _ => n2 - (intOf i).toNat)
      case atStart => exact ⟨0, Nat.zero_le _, rfl, rfl, R2⟩
      case round =>
        obtain ⟨k2, hk2, rfl, rfl, R⟩ := hrel
        obtain ⟨xs2, hown, hx, hb⟩ := R
        clear R2
        by_cases hlt2 : k2 < n2
        · obtain ⟨b, o, rfl, hbl, hc⟩ := H2.out k2 hlt2
          have hc' : wr.cell? ⟨b, o + k2, none⟩ = some (.string (S2 k2)) := by rw [hb.cell (p := ⟨b, o + k2, none⟩) hbl]; exact hc
          clear hc
          go_wp2_with (at_builtin; refine wpList_append_fits _ rfl (.tmp 40) (.tmp 45) 25 rfl w.heap.size 9 i0 1 Try.underlying25 HI.out.1 HI.out.2 w.heap.size (k + 1 + k2) (k + 1 + n2) xs2 rfl (hown.alloc _) ⟨wr.heap.size, 0, none⟩ 1 1 [.string (S2 k2)] rfl rfl ?e1 ?e2 ?e3 ?_)
          case e1 =>
            intro j u hj
            match j, hj with
            | 0, hj => simp at hj; subst hj; simp [Addr.add]
          case e2 => intro u hu; simp at hu; subst hu; rfl
          case e3 => omega
          intro w3 hown3 hg3
          have R3 := JRel.step hown hx hb (J2.out k2) hown3 hg3
          clear hown hx hb hown3 hg3 hc'
          go_wp2
          go_roundw
          case rel => exact ⟨k2 + 1, by omega, by go_num, rfl, R3⟩
          case measure => simp [intOf]; omega
        · have hkn2 : k2 = n2 := by omega
          subst hkn2
          have FIN : Hid (StrsAt wr (some ⟨w.heap.size, 0, none⟩) (k + 1 + k2) J ∧ Below w.heap.size w wr) := ⟨strsAt_of_own hown hx, hb⟩
          clear hown hx hb
          go_wp2
          go_ret
          exact ⟨_, _, rfl, FIN.out.2, FIN.out.1⟩
end Go.Proofs.Qxb6616928a
