import Derived.Test.Qxb6616928aBase
namespace Go.Proofs.Qxb6616928a
open Go.RowKit

/-- A certificate whose names are the given slice: 54 is the place of DNSNames, 57 that of URIs. -/
theorem built83 (a : Option Addr) (n c : Nat) : ∃ cs : Array Value, Try.prog.built 83 [(30, .slice a n c)] = some cs ∧ cs[54]? = some (.slice a n c) ∧ cs[57]? = some (.slice none 0 0) := by
  refine ⟨(Try.prog.built 83 [(30, .slice a n c)]).getD #[], ?_, ?_, ?_⟩
  · kernel_rfl
  · kernel_rfl
  · kernel_rfl

set_option maxHeartbeats 1000000 in
theorem cert14nil (a0 : Option Addr) (n0 c0 : Nat) (S T : Nat → ByteArray) (w : World) :
    Calls Try.prog 14 #[.slice a0 n0 c0, .slice none 0 0, .slice none 0 0] w (CertOut w (.slice a0 n0 c0) 0 S T) := by
  obtain ⟨cs, hcs, h54, h57⟩ := built83 a0 n0 c0
  go_enter Try.func14, Try.ntmps14
  go_wp2_with (refine wpList_build rfl 83 #[(30, .tmp 9)] rfl ?_ ?_)
  go_rounds 1
  go_ret
  exact ⟨_, rfl, (Below.refl _ _).alloc (Nat.le_refl _) _, by simp, by simp [h54], _, _, by simp [h57]; exact ⟨rfl, rfl⟩, fun i hi => by omega⟩

/-- The first of n strings; the empty string where there is none. -/
def firstOf (n : Nat) (S : Nat → ByteArray) : ByteArray := if n = 0 then ByteArray.empty else S 0

theorem node23 (g : Nat) (a0 : Option Addr) (n0 c0 : Nat) (S0 : Nat → ByteArray) (w : World) (h0 : StrsAt w a0 n0 S0) (hg : w.cell? ⟨g, 54, none⟩ = some (.slice a0 n0 c0)) :
    Calls Try.prog 23 #[.pointer (some ⟨g, 0, none⟩)] w fun e w' => e = .returned (.string (firstOf n0 S0)) ∧ w = w' := by
  unfold firstOf
  by_cases hn : n0 = 0
  · subst hn
    clear h0
    go_enter Try.func23, Try.ntmps23
    go_wp2
    go_ret
    exact ⟨rfl, rfl⟩
  · obtain ⟨b, o, rfl, hb, hc⟩ := h0 0 (by omega)
    have hne : ((n0 : Int) == 0) = false := by simp; omega
    have hp : (0 : Int) < (n0 : Int) := by omega
    have hc0 : w.cell? ⟨b, o, none⟩ = some (.string (S0 0)) := by simpa using hc
    rw [if_neg hn]
    clear hc h0
    go_enter Try.func23, Try.ntmps23
    go_wp2
    go_ret
    exact ⟨rfl, rfl⟩
end Go.Proofs.Qxb6616928a
