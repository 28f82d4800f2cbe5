import Derived.Test.Qxb6616928aBaseU
import Derived.Deep.OwnRows
namespace Go.Proofs.Qxb6616928a
open Go.RowKit

theorem strsAt_of_row {w : World} {b n : Nat} {f : Nat → Value} {S : Nat → ByteArray} (h : w.rowIs b 9 n f) (hf : ∀ i, i < n → f i = .string (S i)) : StrsAt w (some ⟨b, 0, none⟩) n S := by
  intro i hi
  refine ⟨b, 0, rfl, h.lt, ?_⟩
  rw [Nat.zero_add, h.cell hi, hf i hi]

def SplitOut (w : World) (n : Nat) (S T : Nat → ByteArray) (e : Ending) (w' : World) : Prop :=
  ∃ a1 c1 a2 c2, e = .returned (.tuple #[.slice a1 n c1, .slice a2 n c2]) ∧ Below w.heap.size w w' ∧ StrsAt w' a1 n S ∧ StrsAt w' a2 n T

def SRel (w : World) (n : Nat) (S T : Nat → ByteArray) (k : Nat) (wr : World) : Prop :=
  ∃ f g, wr.rowIs w.heap.size 9 n f ∧ wr.rowIs (w.heap.size + 1) 9 n g ∧ (∀ i, i < k → f i = .string (S i)) ∧ (∀ i, i < k → g i = .string (T i)) ∧ Below w.heap.size w wr

theorem SRel.start (w : World) (n : Nat) (S T : Nat → ByteArray) : SRel w n S T 0 ((w.alloc (.cells (madeCells #[.string ByteArray.empty] n) 9)).alloc (.cells (madeCells #[.string ByteArray.empty] n) 9)) := by
  refine ⟨_, fun _ => .string ByteArray.empty, (World.rowIs_made w (.string ByteArray.empty) n 9).alloc _, ?_, fun i hi => by omega, fun i hi => by omega, ?_⟩
  · have := World.rowIs_made (w.alloc (.cells (madeCells #[.string ByteArray.empty] n) 9)) (.string ByteArray.empty) n 9
    simpa using this
  · exact ((Below.refl _ _).alloc (Nat.le_refl _) _).alloc (by simp) _

theorem SRel.step {w wr : World} {n k : Nat} {S T : Nat → ByteArray} (h : SRel w n S T k wr) :
    SRel w n S T (k + 1) ((wr.setCell ⟨w.heap.size, k, none⟩ (.string (S k))).setCell ⟨w.heap.size + 1, k, none⟩ (.string (T k))) := by
  obtain ⟨f, g, hf, hg, ef, eg, hb⟩ := h
  refine ⟨_, _, (hf.set k (.string (S k))).setOther (by simp) _, (hg.setOther (a := ⟨w.heap.size, k, none⟩) (by simp) (.string (S k))).set k (.string (T k)), fun i hi => ?_, fun i hi => ?_, (hb.setCell (by simp) _).setCell (by simp) _⟩
  · show (if i = k then _ else _) = _
    by_cases e : i = k
    · subst e; simp
    · rw [if_neg e]; exact ef i (by omega)
  · show (if i = k then _ else _) = _
    by_cases e : i = k
    · subst e; simp
    · rw [if_neg e]; exact eg i (by omega)

set_option maxHeartbeats 1000000 in
theorem split12 (a0 : Option Addr) (n0 c0 : Nat) (S T : Nat → ByteArray) (w : World)
    (h0 : PairsAt w a0 n0 S T) (m0 : n0 ≤ 4194304) :
    Calls Try.prog 12 #[.slice a0 n0 c0] w (SplitOut w n0 S T) := by
  have H0 : Hid (PairsAt w a0 n0 S T) := h0
  clear h0
  have hmk := run_make_row' (P := Try.prog) 25 9 (.string ByteArray.empty) 16 Try.underlying25 Try.info9 rfl .i64 .i64 n0 (by omega) (by omega)
  go_enter Try.func12, Try.ntmps12
  go_wp2
  clear hmk
  go_loopw [6] (fun i wr => ∃ k : Nat, k ≤ n0 ∧ i = .int .i64 k ∧ SRel w n0 S T k wr) (fun i _ => n0 - (intOf i).toNat)
  case atStart => exact ⟨0, Nat.zero_le _, rfl, SRel.start _ _ _ _⟩
  case round =>
    obtain ⟨k, hk, rfl, R⟩ := hrel
    by_cases hlt : k < n0
    · have ST := SRel.step R
      obtain ⟨f, g, hf, hg, ef, eg, hbel⟩ := R
      obtain ⟨b, o, rfl, hb, hc, hc2⟩ := H0.out k hlt
      have d1 : wr.cell? ⟨b, o + k * 2, none⟩ = some (.string (S k)) := by rw [hbel.cell (p := ⟨b, o + k * 2, none⟩) hb]; exact hc
      have d2 : wr.cell? ⟨b, o + k * 2 + 1, none⟩ = some (.string (T k)) := by rw [hbel.cell (p := ⟨b, o + k * 2 + 1, none⟩) hb]; exact hc2
      have e1 := hf.cell hlt
      have e2 := hg.cell hlt
      have f1 := hf.frozen k
      have f2 := hg.frozen k
      clear hc hc2 hf hg ef eg hbel
      go_wp2
      go_roundw
      case rel => exact ⟨k + 1, by omega, by go_num, ST⟩
      case measure => simp [intOf]; omega
    · have hkn : k = n0 := by omega
      subst hkn
      obtain ⟨f, g, hf, hg, ef, eg, hbel⟩ := R
      have FIN : Hid (Below w.heap.size w wr ∧ StrsAt wr (some ⟨w.heap.size, 0, none⟩) k S ∧ StrsAt wr (some ⟨w.heap.size + 1, 0, none⟩) k T) := ⟨hbel, strsAt_of_row hf ef, strsAt_of_row hg eg⟩
      clear hf hg ef eg hbel
      go_wp2
      go_ret2
      exact ⟨_, _, _, _, rfl, FIN.out⟩
end Go.Proofs.Qxb6616928a
