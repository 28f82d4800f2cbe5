import Derived.Test.Qxb6616928aWith
import Derived.LaidEqlPtr
import Derived.Lib.Builder
namespace Go.Proofs.Qxb6616928a
open Go.RowKit

theorem Try.size103 : (Try.prog.info? 103).map (·.size) = some 5 := by kernel_rfl
theorem info103 : ∃ j, Try.prog.info? 103 = some j ∧ j.size ≠ 0 := by
  have h := Try.size103
  cases hi : Try.prog.info? 103 with
  | none => rw [hi] at h; cases h
  | some j => rw [hi] at h; simp at h; exact ⟨j, rfl, by omega⟩

theorem ptr_eql_same (w : World) (a : Addr) : (binOp .eql 48 (.pointer (some a)) (.pointer (some a))).run Try.prog w = .ok (.bool true) w := by
  obtain ⟨j, hj, _⟩ := info103
  exact run_eql_ptr_same w a Try.underlying48 hj
theorem ptr_neq_same (w : World) (a : Addr) : (binOp .neq 48 (.pointer (some a)) (.pointer (some a))).run Try.prog w = .ok (.bool false) w := by
  obtain ⟨j, hj, _⟩ := info103
  exact Lib.run_neq_ptr_same w a Try.underlying48 hj

theorem ptr_eql_other {w : World} {n m : Nat} (hne : n ≠ m) (hn : ∃ cs t, w.heap[n]? = some (.cells cs t (0, 0))) (hm : ∃ cs t, w.heap[m]? = some (.cells cs t (0, 0))) :
    (binOp .eql 48 (.pointer (some ⟨n, 0, none⟩)) (.pointer (some ⟨m, 0, none⟩))).run Try.prog w = .ok (.bool false) w := by
  obtain ⟨j, hj, hz⟩ := info103
  obtain ⟨cs, t, h1⟩ := hn
  obtain ⟨cs', t', h2⟩ := hm
  exact run_eql_ptr_other w Try.underlying48 hj hz (fun e => hne (congrArg Addr.block e)) h1 h2
theorem ptr_neq_other {w : World} {n m : Nat} (hne : n ≠ m) (hn : ∃ cs t, w.heap[n]? = some (.cells cs t (0, 0))) (hm : ∃ cs t, w.heap[m]? = some (.cells cs t (0, 0))) :
    (binOp .neq 48 (.pointer (some ⟨n, 0, none⟩)) (.pointer (some ⟨m, 0, none⟩))).run Try.prog w = .ok (.bool true) w := by
  obtain ⟨j, hj, hz⟩ := info103
  obtain ⟨cs, t, h1⟩ := hn
  obtain ⟨cs', t', h2⟩ := hm
  have h : ∀ d : Nat, (Op.equalIn (d + 1) 48 (.pointer (some ⟨n, 0, none⟩)) (.pointer (some ⟨m, 0, none⟩))).run Try.prog w = .ok false w := fun d => by
    simp [Op.equalIn, run_underlying Try.underlying48, sizeOf, typeInfo, hj, hz, run_sameAddr_other w (a := ⟨n, 0, none⟩) (b := ⟨m, 0, none⟩) (fun e => hne (congrArg Addr.block e)) h1 h2]
  simp only [binOp]
  simp [Op.equal, Op.maxDepth, h 9999]

theorem CAIs.plain {w : World} {c : Nat} {g nb na : Int} {crl : ByteArray} (h : CAIs w c g nb na crl) : ∃ cs t, w.heap[c]? = some (.cells cs t (0, 0)) := by
  obtain ⟨k, h1, _⟩ := h
  exact h1.2.2.2.2.2.2
end Go.Proofs.Qxb6616928a
