/- Shared words of the walks: what a walk is told of a slice of strings that came in. -/
import Derived.Test.Qxb6616928aProg
import Derived.WalkKit
import Derived.Handy
import Derived.WalkLawsBesides
import Derived.Deep.Strs
import Derived.Deep.SlicePairs
namespace Go.Proofs.Qxb6616928a
open Go.RowKit

/-- A slice of n strings: cell i behind its head holds S i (nothing is said of the head where n = 0). -/
def StrsAt (w : World) (a : Option Addr) (n : Nat) (S : Nat → ByteArray) : Prop :=
  ∀ i, i < n → ∃ b o, a = some ⟨b, o, none⟩ ∧ b < w.heap.size ∧ w.cell? ⟨b, o + i, none⟩ = some (.string (S i))

theorem StrsAt.below {w w' : World} {a : Option Addr} {n : Nat} {S : Nat → ByteArray} (h : StrsAt w a n S) (hb : Below w.heap.size w w') : StrsAt w' a n S := by
  intro i hi
  obtain ⟨b, o, e, hlt, hc⟩ := h i hi
  exact ⟨b, o, e, Nat.lt_of_lt_of_le hlt hb.size, by rw [hb.cell (p := ⟨b, o + i, none⟩) hlt]; exact hc⟩

/-- Where there is an element the head is an address, and all cells lie behind it. -/
theorem StrsAt.head {w : World} {a : Option Addr} {n : Nat} {S : Nat → ByteArray} (h : StrsAt w a n S) (hn : 0 < n) :
    ∃ b o, a = some ⟨b, o, none⟩ ∧ b < w.heap.size ∧ ∀ i, i < n → w.cell? ⟨b, o + i, none⟩ = some (.string (S i)) := by
  obtain ⟨b, o, e, hlt, _⟩ := h 0 hn
  refine ⟨b, o, e, hlt, fun i hi => ?_⟩
  obtain ⟨b', o', e', _, hc⟩ := h i hi
  rw [e] at e'
  simp only [Option.some.injEq, Addr.mk.injEq, and_true] at e'
  obtain ⟨rfl, rfl⟩ := e'
  exact hc

/-- A test function that writes nothing: it answers some bool; where that is 'true', P holds. -/
def BoolIf (P : Prop) (w : World) (e : Ending) (w' : World) : Prop := w = w' ∧ ∃ r : Bool, e = .returned (.bool r) ∧ (r = true → P)
theorem BoolIf.no (P : Prop) (w : World) : BoolIf P w (.returned (.bool false)) w := ⟨rfl, false, rfl, fun h => by cases h⟩
theorem BoolIf.yes {P : Prop} (w : World) (h : P) : BoolIf P w (.returned (.bool true)) w := ⟨rfl, true, rfl, fun _ => h⟩

/-- A function that writes nothing and answers some int. -/
def IntSome (w : World) (e : Ending) (w' : World) : Prop := w = w' ∧ ∃ r : Int, e = .returned (.int .i64 r)
theorem IntSome.mk (w : World) (r : Int) : IntSome w (.returned (.int .i64 r)) w := ⟨rfl, r, rfl⟩

/-- What comes back is a slice of the n strings S; nothing that was there has turned. -/
def StrsOut (w : World) (n : Nat) (S : Nat → ByteArray) (e : Ending) (w' : World) : Prop :=
  ∃ a c, e = .returned (.slice a n c) ∧ Below w.heap.size w w' ∧ StrsAt w' a n S

/-- Out of a row of the call's own. -/
theorem strsAt_of_own {w : World} {base g n c : Nat} {xs : List Value} {S : Nat → ByteArray} (h : w.ownsRow base 9 1 (.slice (some ⟨g, 0, none⟩) n c) n xs) (hx : ∀ i, i < n → xs[i]? = some (.string (S i))) :
    StrsAt w (some ⟨g, 0, none⟩) n S := by
  intro i hi
  have hc := h.cellAt i (by omega)
  rw [hx i hi] at hc
  refine ⟨g, 0, rfl, ?_, by simpa using hc⟩
  rcases h.2 with ⟨h', _⟩ | ⟨g', cap', cur, h', _, hg, _⟩
  · simp at h'
  · simp only [Value.slice.injEq, Option.some.injEq, Addr.mk.injEq, and_true, true_and] at h'
    obtain ⟨rfl, rfl⟩ := h'
    exact (Array.getElem?_eq_some_iff.1 hg).1

theorem Try.info9 : (Try.prog.info? 9).map (fun i => (i.zero, i.size, i.bytes)) = some (some (.string ByteArray.empty), 1, 16) := by kernel_rfl

/-- A slice of n pointers, the i-th to a url.URL of scheme S i and path T i. -/
def URIsAt (w : World) (a : Option Addr) (n : Nat) (S T : Nat → ByteArray) : Prop :=
  ∀ i, i < n → ∃ b o u, a = some ⟨b, o, none⟩ ∧ b < w.heap.size ∧ u < w.heap.size ∧ w.cell? ⟨b, o + i, none⟩ = some (.pointer (some ⟨u, 0, none⟩)) ∧ w.cell? ⟨u, 0, none⟩ = some (.string (S i)) ∧ w.cell? ⟨u, 4, none⟩ = some (.string (T i))

/-- Block g holds a certificate: its names are v, its URIs n of scheme S i and path T i. -/
def CertAt (w : World) (g : Nat) (v : Value) (n : Nat) (S T : Nat → ByteArray) : Prop :=
  g < w.heap.size ∧ w.cell? ⟨g, 54, none⟩ = some v ∧ ∃ a c, w.cell? ⟨g, 57, none⟩ = some (.slice a n c) ∧ URIsAt w a n S T

def CertOut (w : World) (v : Value) (n : Nat) (S T : Nat → ByteArray) (e : Ending) (w' : World) : Prop :=
  ∃ g, e = .returned (.pointer (some ⟨g, 0, none⟩)) ∧ Below w.heap.size w w' ∧ CertAt w' g v n S T

theorem URIsAt.below {w w' : World} {a : Option Addr} {n : Nat} {S T : Nat → ByteArray} (h : URIsAt w a n S T) (hb : Below w.heap.size w w') : URIsAt w' a n S T := by
  intro i hi
  obtain ⟨b, o, u, e, hlt, hu, c1, c2, c3⟩ := h i hi
  exact ⟨b, o, u, e, Nat.lt_of_lt_of_le hlt hb.size, Nat.lt_of_lt_of_le hu hb.size, by rw [hb.cell (p := ⟨b, o + i, none⟩) hlt]; exact c1, by rw [hb.cell (p := ⟨u, 0, none⟩) hu]; exact c2, by rw [hb.cell (p := ⟨u, 4, none⟩) hu]; exact c3⟩

theorem CertAt.below {w w' : World} {g : Nat} {v : Value} {n : Nat} {S T : Nat → ByteArray} (h : CertAt w g v n S T) (hb : Below w.heap.size w w') : CertAt w' g v n S T := by
  obtain ⟨hg, c1, a, c, c2, hu⟩ := h
  exact ⟨Nat.lt_of_lt_of_le hg hb.size, by rw [hb.cell (p := ⟨g, 54, none⟩) hg]; exact c1, a, c, by rw [hb.cell (p := ⟨g, 57, none⟩) hg]; exact c2, hu.below hb⟩

/-- A law's end: it answers true; nothing that was there has turned. -/
def TrueOut (w : World) (e : Ending) (w' : World) : Prop := e = .returned (.bool true) ∧ Below w.heap.size w w'
theorem TrueOut.here (w : World) : TrueOut w (.returned (.bool true)) w := ⟨rfl, Below.refl _ _⟩

end Go.Proofs.Qxb6616928a
