/- From the reading of an argument to what the walks are told of it. -/
import Derived.Test.Qxb6616928aRows
import Derived.Test.Qxb6616928aBaseU
import Derived.ProofKit
import Derived.OpenShut
import Derived.ShutString
import Derived.ChangeOld
import Derived.Below
namespace Go.Proofs.Qxb6616928a
open Go.ChangeShapes Go.WideShapes Go.ChangeAt Go.RowKit

theorem Try.own : ownKnob Try.prog.godebug = none := by kernel_rfl
theorem Try.laidOut : laidOutB Try.prog = true := by kernel_rfl

theorem lt_of_cell {W : World} {b o : Nat} {v : Value} (hc : W.cell? ⟨b, o, none⟩ = some v) : b < W.heap.size := by
  rcases Nat.lt_or_ge b W.heap.size with h | h
  · exact h
  · simp [World.cell?, Array.getElem?_eq_none h] at hc

theorem strs_of_trod {H : Type} {enc : TypeId × Value → H} {W : World} {a : Option Addr} {n c : Nat} {x : DataW H × List MemPlace} {fuel : Nat}
    (hf : DataW.trod enc Try.prog W 0 (fun _ => true) true fuel 25 (Value.slice a n c).cells.toList = some x) : ∃ S : Nat → ByteArray, StrsAt W a n S ∧ n ≤ maxLen := by
  rcases Deep.open_strs Try.underlying25 Try.underlying9 (by kernel_rfl) hf with ⟨hcs, _⟩ | ⟨y, l, cp, m, Sx, hcs, _, hl, hm, hmm, _, hcell⟩
  · simp [Value.cells] at hcs
    obtain ⟨rfl, rfl, rfl⟩ := hcs
    exact ⟨fun _ => ByteArray.empty, fun i hi => by omega, Nat.zero_le _⟩
  · simp [Value.cells] at hcs
    obtain ⟨rfl, rfl, rfl⟩ := hcs
    simp only [if_true] at hmm
    refine ⟨Sx, fun i hi => ?_, by omega⟩
    obtain ⟨b, off, spot⟩ := y
    have hc := (hcell i (by omega)).1
    have hspot : spot = none := by
      have h0 := (hcell 0 (by omega)).1
      simpa [Addr.add] using World.cell?_spot h0
    subst hspot
    rw [show (⟨b, off, none⟩ : Addr).add i = ⟨b, off + i, none⟩ from add_plain ..] at hc
    exact ⟨b, off, rfl, lt_of_cell hc, hc⟩

theorem pairs_of_trod {H : Type} {enc : TypeId × Value → H} {W : World} {a : Option Addr} {n c : Nat} {x : DataW H × List MemPlace} {fuel : Nat}
    (hf : DataW.trod enc Try.prog W 0 (fun _ => true) true fuel 22 (Value.slice a n c).cells.toList = some x) : ∃ S T : Nat → ByteArray, PairsAt W a n S T ∧ n ≤ maxLen := by
  rcases Deep.open_slice_pairs Try.underlying22 Try.underlying34 (by kernel_rfl) rfl rfl (by kernel_rfl) (by kernel_rfl) hf with ⟨hcs, _⟩ | ⟨y, l, cp, m, fu, V0, V1, D0, D1, P0, P1, hcs, _, hl, hm, hmm, _, hcell⟩
  · simp [Value.cells] at hcs
    obtain ⟨rfl, rfl, rfl⟩ := hcs
    exact ⟨fun _ => ByteArray.empty, fun _ => ByteArray.empty, fun i hi => by omega, Nat.zero_le _⟩
  · simp [Value.cells] at hcs
    obtain ⟨rfl, rfl, rfl⟩ := hcs
    simp only [if_true] at hmm
    have each : ∀ i, i < n → ∃ q : ByteArray × ByteArray, V0 i = .string q.1 ∧ V1 i = .string q.2 := fun i hi => by
      obtain ⟨_, _, t0, t1⟩ := hcell i (by omega)
      obtain ⟨s, e0, _⟩ := DataW.trod_string Try.underlying9 t0
      obtain ⟨t, e1, _⟩ := DataW.trod_string Try.underlying9 t1
      exact ⟨(s, t), by simpa using e0, by simpa using e1⟩
    obtain ⟨q, hq⟩ := Deep.choose_lt each
    refine ⟨fun i => (q i).1, fun i => (q i).2, fun i hi => ?_, by omega⟩
    obtain ⟨b, off, spot⟩ := y
    obtain ⟨c0, c1, _, _⟩ := hcell i (by omega)
    have hspot : spot = none := by
      have h0 := (hcell 0 (by omega)).1
      simpa [Addr.add] using World.cell?_spot h0
    subst hspot
    rw [show (⟨b, off, none⟩ : Addr).add (i * 2) = ⟨b, off + i * 2, none⟩ from add_plain .., (hq i hi).1] at c0
    rw [show (⟨b, off, none⟩ : Addr).add (i * 2 + 1) = ⟨b, off + (i * 2 + 1), none⟩ from add_plain .., (hq i hi).2] at c1
    exact ⟨b, off, rfl, lt_of_cell c0, c0, by rw [Nat.add_assoc]; exact c1⟩

end Go.Proofs.Qxb6616928a
