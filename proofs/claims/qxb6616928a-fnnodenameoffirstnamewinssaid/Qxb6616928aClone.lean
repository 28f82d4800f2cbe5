import Derived.Test.Qxb6616928aBase
namespace Go.Proofs.Qxb6616928a
open Go.RowKit

theorem clone_step {w wr : World} {n k : Nat} {xs : List Value} {S : Nat → ByteArray} (hk : k < n) (hown : wr.ownsRow w.heap.size 9 1 (.slice (some ⟨w.heap.size, 0, none⟩) n n) n xs) (hx : ∀ i, i < k → xs[i]? = some (.string (S i))) (hb : Below w.heap.size w wr) :
    ∃ ys, (wr.setCell ⟨w.heap.size, k, none⟩ (.string (S k))).ownsRow w.heap.size 9 1 (.slice (some ⟨w.heap.size, 0, none⟩) n n) n ys ∧ (∀ i, i < k + 1 → ys[i]? = some (.string (S i))) ∧ Below w.heap.size w (wr.setCell ⟨w.heap.size, k, none⟩ (.string (S k))) := by
  have hl := hown.1
  refine ⟨_, (hown.stored k (.string (S k))).1, fun i hi => ?_, hb.setCell (Nat.le_refl _) _⟩
  rw [List.getElem?_set]
  by_cases e : k = i
  · subst e; simp; omega
  · simp [e]; exact hx i (by omega)

set_option maxHeartbeats 1000000 in
theorem clone22 (a0 : Option Addr) (n0 c0 : Nat) (S0 : Nat → ByteArray) (w : World)
    (h0 : StrsAt w a0 n0 S0) (m0 : n0 ≤ 1048576) :
    Calls Try.prog 22 #[.slice a0 n0 c0] w (StrsOut w n0 S0) := by
  have q25 : ∀ (w : World) (a : Option Addr) (n c n' c' : Nat), (binOp .eql 25 (.slice a n c) (.slice none n' c')).run Try.prog w = .ok (.bool a.isNone) w := fun w a n c n' c' => Lib.run_eql_slice_nil w _ _ a n c n' c' Try.underlying25
  have H0 : Hid (StrsAt w a0 n0 S0) := h0
  obtain ⟨i0, hi, hz0, hz1, hz2⟩ := info_parts Try.info9
  cases a0 with
  | none =>
    have hn : n0 = 0 := by
      rcases Nat.eq_zero_or_pos n0 with h | h
      · exact h
      · obtain ⟨_, _, h', _⟩ := h0 0 h; cases h'
    subst hn
    clear h0
    go_enter Try.func22, Try.ntmps22
    go_wp2
    go_ret
    exact ⟨none, 0, rfl, Below.refl _ _, fun i hi => by omega⟩
  | some x =>
    clear h0
    go_enter Try.func22, Try.ntmps22
    go_wp2_with (at_make; refine wpList_make_full _ rfl _ _ 25 rfl w.heap.size 9 i0 (.string ByteArray.empty) 1 Try.underlying25 hi hz0 hz1 _ _ _ _ n0 rfl rfl rfl rfl ?c1 ?c2 ?c3 ?_)
    case c1 => rw [hz2]; omega
    case c2 => unfold maxLen; omega
    case c3 => exact Nat.le_refl _
    intro w1 hown hgrow
    have hb1 : Below w.heap.size w w1 := (Below.refl _ _).grown hgrow (Nat.le_refl _) (by simp)
    have REL : Hid (∃ xs : List Value, w1.ownsRow w.heap.size 9 1 (.slice (some ⟨w.heap.size, 0, none⟩) n0 n0) n0 xs ∧ (∀ i, i < 0 → xs[i]? = some (.string (S0 i))) ∧ Below w.heap.size w w1) := ⟨_, hown, fun i hi => by omega, hb1⟩
    clear hown hgrow hb1 hi hz0 hz1 hz2
    go_wp2
    go_loopw [4] (fun i wr => ∃ k : Nat, k ≤ n0 ∧ i = .int .i64 k ∧ Hid (∃ xs : List Value, wr.ownsRow w.heap.size 9 1 (.slice (some ⟨w.heap.size, 0, none⟩) n0 n0) n0 xs ∧ (∀ i, i < k → xs[i]? = some (.string (S0 i))) ∧ Below w.heap.size w wr)) (fun i _ => n0 - (intOf i).toNat)
    case atStart => exact ⟨0, Nat.zero_le _, rfl, REL⟩
    case round =>
      obtain ⟨k, hk, rfl, R⟩ := hrel
      obtain ⟨xs, hown, hx, hb⟩ := R.out
      by_cases hlt : k < n0
      · obtain ⟨b, o, e, hbl, hc⟩ := H0.out k hlt
        simp only [Option.some.injEq] at e
        subst e
        have hc' : wr.cell? ⟨b, o + k, none⟩ = some (.string (S0 k)) := by rw [hb.cell (p := ⟨b, o + k, none⟩) hbl]; exact hc
        obtain ⟨v, hv⟩ : ∃ v, wr.cell? ⟨w.heap.size, k, none⟩ = some v := by
          rw [hown.cellAt k (by omega)]; have := hown.1; exact ⟨_, List.getElem?_eq_getElem (by omega)⟩
        have hf := hown.frozenAt k
        have ST : Hid _ := clone_step hlt hown hx hb
        clear hown hx hb R hc
        go_wp2
        go_roundw
        case rel => exact ⟨k + 1, by omega, by go_num, ST⟩
        case measure => simp [intOf]; omega
      · have hkn : k = n0 := by omega
        have FIN : Hid (StrsAt wr (some ⟨w.heap.size, 0, none⟩) n0 S0 ∧ Below w.heap.size w wr) := ⟨strsAt_of_own hown (fun i hi => hx i (by omega)), hb⟩
        clear hown hx hb R hkn
        go_wp2
        go_ret
        exact ⟨_, _, rfl, FIN.out.2, FIN.out.1⟩
end Go.Proofs.Qxb6616928a
