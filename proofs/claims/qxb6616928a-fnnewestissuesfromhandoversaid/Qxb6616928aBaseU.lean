/- Shared words of the walks: slices of URIs (two strings each). -/
import Derived.Test.Qxb6616928aBase
import Derived.Deep.QuietTactic
import Derived.BigQuiet
namespace Go.Proofs.Qxb6616928a
open Go.RowKit

/-- A slice of n pairs of strings: the two cells of element i behind its head hold S i and T i. -/
def PairsAt (w : World) (a : Option Addr) (n : Nat) (S T : Nat → ByteArray) : Prop :=
  ∀ i, i < n → ∃ b o, a = some ⟨b, o, none⟩ ∧ b < w.heap.size ∧ w.cell? ⟨b, o + i * 2, none⟩ = some (.string (S i)) ∧ w.cell? ⟨b, o + i * 2 + 1, none⟩ = some (.string (T i))

theorem PairsAt.below {w w' : World} {a : Option Addr} {n : Nat} {S T : Nat → ByteArray} (h : PairsAt w a n S T) (hb : Below w.heap.size w w') : PairsAt w' a n S T := by
  intro i hi
  obtain ⟨b, o, e, hlt, c1, c2⟩ := h i hi
  exact ⟨b, o, e, Nat.lt_of_lt_of_le hlt hb.size, by rw [hb.cell (p := ⟨b, o + i * 2, none⟩) hlt]; exact c1, by rw [hb.cell (p := ⟨b, o + i * 2 + 1, none⟩) hlt]; exact c2⟩

theorem PairsAt.nil (w : World) (a : Option Addr) (S T : Nat → ByteArray) : PairsAt w a 0 S T := fun i hi => by omega

/-- What comes back is a slice of n pairs; nothing that was there has turned. -/
def PairsOut (w : World) (n : Nat) (S T : Nat → ByteArray) (e : Ending) (w' : World) : Prop :=
  ∃ a c, e = .returned (.slice a n c) ∧ Below w.heap.size w w' ∧ PairsAt w' a n S T

theorem Try.info34 : (Try.prog.info? 34).map (fun i => (i.zero, i.size, i.bytes)) = some (some (.agg #[.string ByteArray.empty, .string ByteArray.empty]), 2, 32) := by kernel_rfl

/-- A function that writes nothing (it may draw) and answers some int. -/
def IntDrew (w : World) (e : Ending) (w' : World) : Prop := ∃ (m : Nat) (r : Int), w' = w.drewN m ∧ e = .returned (.int .i64 r)
theorem IntDrew.mk (w : World) (m : Nat) (r : Int) : IntDrew w (.returned (.int .i64 r)) (w.drewN m) := ⟨m, r, rfl, rfl⟩
/-- A test that writes nothing (it may draw); where it says true, P holds. -/
def BoolDrew (P : Prop) (w : World) (e : Ending) (w' : World) : Prop := ∃ (m : Nat) (r : Bool), w' = w.drewN m ∧ e = .returned (.bool r) ∧ (r = true → P)
theorem BoolDrew.no (P : Prop) (w : World) (m : Nat) : BoolDrew P w (.returned (.bool false)) (w.drewN m) := ⟨m, false, rfl, rfl, fun h => by cases h⟩
theorem BoolDrew.yes {P : Prop} (w : World) (m : Nat) (h : P) : BoolDrew P w (.returned (.bool true)) (w.drewN m) := ⟨m, true, rfl, rfl, fun _ => h⟩

end Go.Proofs.Qxb6616928a
