import Derived.Test.Qxb6616928aBaseU
import Derived.Test.Qxb6616928aJoin
namespace Go.Proofs.Qxb6616928a
open Go.RowKit

/-- The first k pairs lie in a row of the call's own (block g), which has room for cap; nothing below g has turned since W. -/
def JRelU (W : World) (g cap : Nat) (S T : Nat → ByteArray) (k : Nat) (wr : World) : Prop :=
  ∃ xs : List Value, wr.ownsRow g 34 2 (.slice (some ⟨g, 0, none⟩) k cap) k xs ∧ (∀ i, i < k → xs[i * 2]? = some (.string (S i)) ∧ xs[i * 2 + 1]? = some (.string (T i))) ∧ Below g W wr

theorem JRelU.step {W wr w1 : World} {g cap k : Nat} {S T : Nat → ByteArray} {xs : List Value} {s t : ByteArray} {o : Obj} (hW : g ≤ W.heap.size) (hown : wr.ownsRow g 34 2 (.slice (some ⟨g, 0, none⟩) k cap) k xs)
    (hx : ∀ i, i < k → xs[i * 2]? = some (.string (S i)) ∧ xs[i * 2 + 1]? = some (.string (T i))) (hb : Below g W wr)
    (hs : S k = s) (ht : T k = t) (hown1 : w1.ownsRow g 34 2 (.slice (some ⟨g, 0, none⟩) (k + 1) cap) (k + 1) (xs ++ [.string s, .string t])) (hg : (wr.alloc o).grownBy w1 (some g)) : JRelU W g cap S T (k + 1) w1 := by
  have hl := hown.1
  have hz := hb.size
  refine ⟨_, hown1, fun i hi => ?_, (hb.alloc (by omega) o).grown hg (by simp; omega) (by simp)⟩
  by_cases e : i < k
  · rw [List.getElem?_append_left (by omega), List.getElem?_append_left (by omega)]; exact hx i e
  · have : i = k := by omega
    subst this
    rw [List.getElem?_append_right (by omega), List.getElem?_append_right (by omega)]
    simp [hl, hs, ht]

theorem pairsAt_of_own {w : World} {base g n c : Nat} {xs : List Value} {S T : Nat → ByteArray} (h : w.ownsRow base 34 2 (.slice (some ⟨g, 0, none⟩) n c) n xs) (hx : ∀ i, i < n → xs[i * 2]? = some (.string (S i)) ∧ xs[i * 2 + 1]? = some (.string (T i))) :
    PairsAt w (some ⟨g, 0, none⟩) n S T := by
  intro i hi
  have hc := h.cellAt (i * 2) (by omega)
  have hc2 := h.cellAt (i * 2 + 1) (by omega)
  rw [(hx i hi).1] at hc
  rw [(hx i hi).2] at hc2
  refine ⟨g, 0, rfl, ?_, by simpa using hc, by simpa using hc2⟩
  rcases h.2 with ⟨h', _⟩ | ⟨g', cap', cur, h', _, hg, _⟩
  · simp at h'
  · simp only [Value.slice.injEq, Option.some.injEq, Addr.mk.injEq, and_true, true_and] at h'
    obtain ⟨rfl, rfl⟩ := h'
    exact (Array.getElem?_eq_some_iff.1 hg).1

theorem two_new {w : World} {s t : ByteArray} : ∀ (j : Nat) (u : Value), ([.string s, .string t] : List Value)[j]? = some u → (w.alloc (.cells #[.string s, .string t] 34)).cell? ((⟨w.heap.size, 0, none⟩ : Addr).add j) = some u := by
  intro j u hj
  match j, hj with
  | 0, hj => simp at hj; subst hj; simp [Addr.add]
  | 1, hj => simp at hj; subst hj; simp [Addr.add]

theorem two_one {s t : ByteArray} : ∀ u ∈ ([.string s, .string t] : List Value), u.oneCell' = true := by
  intro u hu
  simp at hu
  rcases hu with rfl | rfl <;> rfl

set_option maxHeartbeats 2000000 in
theorem join15 (a0 : Option Addr) (n0 c0 : Nat) (S0 T0 : Nat → ByteArray) (s t : ByteArray) (a2 : Option Addr) (n2 c2 : Nat) (S2 T2 : Nat → ByteArray) (w : World)
    (h0 : PairsAt w a0 n0 S0 T0) (h2 : PairsAt w a2 n2 S2 T2) (m0 : n0 ≤ 4194304) (m2 : n2 ≤ 4194304) :
    Calls Try.prog 15 #[.slice a0 n0 c0, .agg #[.string s, .string t], .slice a2 n2 c2] w (PairsOut w (n0 + 1 + n2) (joinF S0 n0 s S2) (joinF T0 n0 t T2)) := by
  obtain ⟨W, hW⟩ : ∃ W, W = w.alloc (.cells #[.string s, .string t] 34) := ⟨_, rfl⟩
  have hWz : W.heap.size = w.heap.size + 1 := by rw [hW]; simp
  have hbW : Below w.heap.size w W := by rw [hW]; exact (Below.refl _ _).alloc (Nat.le_refl _) _
  have H0 : Hid (PairsAt W a0 n0 S0 T0) := h0.below hbW
  have H2 : Hid (PairsAt W a2 n2 S2 T2) := h2.below hbW
  have HW : Hid (W.heap.size = w.heap.size + 1 ∧ Below w.heap.size w W ∧ W.cell? ⟨w.heap.size, 0, none⟩ = some (.string s) ∧ W.cell? ⟨w.heap.size, 1, none⟩ = some (.string t)) := ⟨hWz, hbW, by rw [hW]; simp, by rw [hW]; simp⟩
  obtain ⟨J, hJ⟩ : ∃ J, J = joinF S0 n0 s S2 := ⟨_, rfl⟩
  obtain ⟨L, hL⟩ : ∃ L, L = joinF T0 n0 t T2 := ⟨_, rfl⟩
  rw [← hJ, ← hL]
  have J0 : Hid ((∀ i, i < n0 → J i = S0 i) ∧ (∀ i, i < n0 → L i = T0 i)) := ⟨fun i hi => by rw [hJ]; simp [joinF, hi], fun i hi => by rw [hL]; simp [joinF, hi]⟩
  have J1 : Hid (J n0 = s ∧ L n0 = t) := ⟨by rw [hJ]; simp [joinF], by rw [hL]; simp [joinF]⟩
  have J2 : Hid ((∀ i, J (n0 + 1 + i) = S2 i) ∧ (∀ i, L (n0 + 1 + i) = T2 i)) := ⟨fun i => by rw [hJ]; unfold joinF; rw [if_neg (by omega), if_neg (by omega)]; congr 1; omega, fun i => by rw [hL]; unfold joinF; rw [if_neg (by omega), if_neg (by omega)]; congr 1; omega⟩
  clear h0 h2 hJ hL hWz hbW
  obtain ⟨i0, hi, hz0, hz1, hz2⟩ := info_parts Try.info34
  have HI : Hid (Try.prog.info? 34 = some i0 ∧ i0.size = 2) := ⟨hi, hz1⟩
  have HWe : Hid (W = w.alloc (.cells #[.string s, .string t] 34)) := hW
  clear hW
  go_enter Try.func15, Try.ntmps15
  go_wp2_with (at_make; refine wpList_make_own _ rfl _ _ 22 rfl (w.heap.size + 1) 34 i0 (.agg #[.string ByteArray.empty, .string ByteArray.empty]) 2 Try.underlying22 hi hz0 hz1 _ _ _ (n0 + 1 + n2) rfl rfl ?c0 ?c1 ?c2 ?c3 ?_)
  case c0 => omega
  case c1 => rw [hz2]; omega
  case c2 => unfold maxLen; omega
  case c3 => simp
  intro w1 hown hgrow
  rw [← HWe.out] at hgrow
  have hb1 : Below (w.heap.size + 1) W w1 := (Below.refl _ _).grown hgrow (by rw [HW.out.1]; exact Nat.le_refl _) (by simp)
  have REL : JRelU W (w.heap.size + 1) (n0 + 1 + n2) J L 0 w1 := ⟨_, hown, fun i hi => by omega, hb1⟩
  clear hown hgrow hb1 hi hz0 hz1 hz2
  go_wp2
  go_loopw [7, 8] (fun v i wr => ∃ k : Nat, k ≤ n0 ∧ i = .int .i64 k ∧ v = .slice (some ⟨w.heap.size + 1, 0, none⟩) k (n0 + 1 + n2) ∧ JRelU W (w.heap.size + 1) (n0 + 1 + n2) J L k wr) (fun _ i _ => n0 - (intOf i).toNat)
  case atStart => exact ⟨0, Nat.zero_le _, rfl, rfl, REL⟩
  case round =>
    obtain ⟨k, hk, rfl, rfl, R⟩ := hrel
    obtain ⟨xs, hown, hx, hb⟩ := R
    clear REL
    by_cases hlt : k < n0
    · obtain ⟨b, o, rfl, hbl, hc, hd⟩ := H0.out k hlt
      have hc' : wr.cell? ⟨b, o + k * 2, none⟩ = some (.string (S0 k)) := by rw [hb.cell (p := ⟨b, o + k * 2, none⟩) (by rw [← HW.out.1]; exact hbl)]; exact hc
      have hd' : wr.cell? ⟨b, o + k * 2 + 1, none⟩ = some (.string (T0 k)) := by rw [hb.cell (p := ⟨b, o + k * 2 + 1, none⟩) (by rw [← HW.out.1]; exact hbl)]; exact hd
      clear hc hd
      go_wp2_with (at_builtin; refine wpList_append_fits _ rfl (.tmp 23) (.tmp 28) 22 rfl (w.heap.size + 1) 34 i0 2 Try.underlying22 HI.out.1 HI.out.2 (w.heap.size + 1) k (n0 + 1 + n2) xs rfl (hown.alloc _) ⟨wr.heap.size, 0, none⟩ 1 1 [.string (S0 k), .string (T0 k)] rfl rfl ?d1 ?d2 ?d3 ?_)
      case d1 => exact two_new
      case d2 => exact two_one
      case d3 => omega
      intro w2 hown2 hg2
      have R2 := JRelU.step (by rw [HW.out.1]; exact Nat.le_refl _) hown hx hb (J0.out.1 k hlt) (J0.out.2 k hlt) hown2 hg2
      clear hown hx hb hown2 hg2 hc' hd'
      go_wp2
      go_roundw
      case rel => exact ⟨k + 1, by omega, by go_num, rfl, R2⟩
      case measure => simp [intOf]; omega
    · have hkn : k = n0 := by omega
      subst hkn
      have hc' : wr.cell? ⟨w.heap.size, 0, none⟩ = some (.string s) := by rw [hb.cell (p := ⟨w.heap.size, 0, none⟩) (Nat.lt_succ_self _)]; exact HW.out.2.2.1
      have hd' : wr.cell? ⟨w.heap.size, 1, none⟩ = some (.string t) := by rw [hb.cell (p := ⟨w.heap.size, 1, none⟩) (Nat.lt_succ_self _)]; exact HW.out.2.2.2
      go_wp2_with (at_builtin; refine wpList_append_fits _ rfl (.tmp 30) (.tmp 32) 22 rfl (w.heap.size + 1) 34 i0 2 Try.underlying22 HI.out.1 HI.out.2 (w.heap.size + 1) k (k + 1 + n2) xs rfl (hown.alloc _) ⟨wr.heap.size, 0, none⟩ 1 1 [.string s, .string t] rfl rfl ?d1 ?d2 ?d3 ?_)
      case d1 => exact two_new
      case d2 => exact two_one
      case d3 => omega
      intro w2 hown2 hg2
      have R2 := JRelU.step (by rw [HW.out.1]; exact Nat.le_refl _) hown hx hb J1.out.1 J1.out.2 hown2 hg2
      clear hown hx hb hown2 hg2 hc' hd'
      go_wp2
      go_loopw [7, 9] (fun v i wr => ∃ k' : Nat, k' ≤ n2 ∧ i = .int .i64 k' ∧ v = .slice (some ⟨w.heap.size + 1, 0, none⟩) (k + 1 + k') (k + 1 + n2) ∧ JRelU W (w.heap.size + 1) (k + 1 + n2) J L (k + 1 + k') wr) (fun _ i _ => n2 - (intOf i).toNat)
      case atStart => exact ⟨0, Nat.zero_le _, rfl, rfl, R2⟩
      case round =>
        obtain ⟨k2, hk2, rfl, rfl, R⟩ := hrel
        obtain ⟨xs2, hown, hx, hb⟩ := R
        clear R2
        by_cases hlt2 : k2 < n2
        · obtain ⟨b, o, rfl, hbl, hc, hd⟩ := H2.out k2 hlt2
          have hc' : wr.cell? ⟨b, o + k2 * 2, none⟩ = some (.string (S2 k2)) := by rw [hb.cell (p := ⟨b, o + k2 * 2, none⟩) (by rw [← HW.out.1]; exact hbl)]; exact hc
          have hd' : wr.cell? ⟨b, o + k2 * 2 + 1, none⟩ = some (.string (T2 k2)) := by rw [hb.cell (p := ⟨b, o + k2 * 2 + 1, none⟩) (by rw [← HW.out.1]; exact hbl)]; exact hd
          clear hc hd
          go_wp2_with (at_builtin; refine wpList_append_fits _ rfl (.tmp 40) (.tmp 45) 22 rfl (w.heap.size + 1) 34 i0 2 Try.underlying22 HI.out.1 HI.out.2 (w.heap.size + 1) (k + 1 + k2) (k + 1 + n2) xs2 rfl (hown.alloc _) ⟨wr.heap.size, 0, none⟩ 1 1 [.string (S2 k2), .string (T2 k2)] rfl rfl ?e1 ?e2 ?e3 ?_)
          case e1 => exact two_new
          case e2 => exact two_one
          case e3 => omega
          intro w3 hown3 hg3
          have R3 := JRelU.step (by rw [HW.out.1]; exact Nat.le_refl _) hown hx hb (J2.out.1 k2) (J2.out.2 k2) hown3 hg3
          clear hown hx hb hown3 hg3 hc' hd'
          go_wp2
          go_roundw
          case rel => exact ⟨k2 + 1, by omega, by go_num, rfl, R3⟩
          case measure => simp [intOf]; omega
        · have hkn2 : k2 = n2 := by omega
          subst hkn2
          have FIN : Hid (PairsAt wr (some ⟨w.heap.size + 1, 0, none⟩) (k + 1 + k2) J L ∧ Below w.heap.size w wr) := ⟨pairsAt_of_own hown hx, HW.out.2.1.trans (hb.mono (Nat.le_succ _))⟩
          clear hown hx hb
          go_wp2
          go_ret
          exact ⟨_, _, rfl, FIN.out.2, FIN.out.1⟩
end Go.Proofs.Qxb6616928a
