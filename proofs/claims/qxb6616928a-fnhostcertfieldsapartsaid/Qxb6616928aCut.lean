import Derived.Test.Qxb6616928aBaseU
import Derived.WalkSpells
namespace Go.Proofs.Qxb6616928a
open Go.RowKit

/-- Does s begin with p? -/
def hasB (s p : ByteArray) : Bool := decide (p.size ≤ s.size) && ((s.extract 0 p.size).toList == p.toList)

theorem hasB_size {s p : ByteArray} (h : hasB s p = true) : p.size ≤ s.size := by
  unfold hasB at h; simp at h; exact h.1

set_option maxHeartbeats 1000000 in
theorem has57 (s p : ByteArray) (w : World) :
    Calls Try.prog 57 #[.string s, .string p] w fun e w' => e = .returned (.bool (hasB s p)) ∧ w = w' := by
  by_cases h : (p.size : Int) ≤ (s.size : Int)
  · have e1 : hasB s p = ((s.extract 0 p.size).toList == p.toList) := by unfold hasB; rw [decide_eq_true (by omega)]; simp
    rw [e1]
    clear e1
    go_enter Try.func57, Try.ntmps57
    go_wp2
    go_ret
    exact ⟨rfl, rfl⟩
  · have e1 : hasB s p = false := by unfold hasB; rw [decide_eq_false (by omega)]; simp
    rw [e1]
    clear e1
    go_enter Try.func57, Try.ntmps57
    go_wp2
    go_ret
    exact ⟨rfl, rfl⟩

set_option maxHeartbeats 1000000 in
theorem cut51_yes (s p : ByteArray) (w : World) (h : hasB s p = true) :
    Calls Try.prog 51 #[.string s, .string p] w fun e w' => e = .returned (.tuple #[.string (s.extract p.size s.size), .bool true]) ∧ w = w' := by
  have hz := hasB_size h
  go_enter Try.func51, Try.ntmps51
  go_wp2_with (go_at_call 57; refine (has57 _ _ _).mono ?_; rintro e w' ⟨rfl, rfl⟩)
  go_ret2
  exact ⟨rfl, rfl⟩

set_option maxHeartbeats 1000000 in
theorem cut51_no (s p : ByteArray) (w : World) (h : hasB s p = false) :
    Calls Try.prog 51 #[.string s, .string p] w fun e w' => e = .returned (.tuple #[.string s, .bool false]) ∧ w = w' := by
  go_enter Try.func51, Try.ntmps51
  go_wp2_with (go_at_call 57; refine (has57 _ _ _).mono ?_; rintro e w' ⟨rfl, rfl⟩)
  go_ret2
  exact ⟨rfl, rfl⟩

set_option maxHeartbeats 1000000 in
theorem cut41_yes (s p : ByteArray) (w : World) (h : hasB s p = true) :
    Calls Try.prog 41 #[.string s, .string p] w fun e w' => e = .returned (.tuple #[.string (s.extract p.size s.size), .bool true]) ∧ w = w' := by
  go_enter Try.func41, Try.ntmps41
  go_wp2_with (go_at_call 51; refine (cut51_yes _ _ _ h).mono ?_; rintro e w' ⟨rfl, rfl⟩)
  go_ret2
  exact ⟨rfl, rfl⟩

set_option maxHeartbeats 1000000 in
theorem cut41_no (s p : ByteArray) (w : World) (h : hasB s p = false) :
    Calls Try.prog 41 #[.string s, .string p] w fun e w' => e = .returned (.tuple #[.string s, .bool false]) ∧ w = w' := by
  go_enter Try.func41, Try.ntmps41
  go_wp2_with (go_at_call 51; refine (cut51_no _ _ _ h).mono ?_; rintro e w' ⟨rfl, rfl⟩)
  go_ret2
  exact ⟨rfl, rfl⟩

def schemeB : ByteArray := ⟨#[100, 111, 107, 105, 109, 97, 115, 105, 97]⟩
def prefixB : ByteArray := ⟨#[47, 114, 111, 108, 101, 47]⟩

set_option maxHeartbeats 1000000 in
theorem role16 (r : ByteArray) (w : World) (hr : r.size ≤ 1048576) :
    Calls Try.prog 16 #[.string r] w fun e w' => e = .returned (.agg #[.string schemeB, .string (prefixB ++ r)]) ∧ Below w.heap.size w w' := by
  go_enter Try.func16, Try.ntmps16
  go_wp2
  exact bodyPost_ret (v := .agg #[.string schemeB, .string (prefixB ++ r)]) (by simp [results, Try.results16, go_sem]; exact ⟨rfl, rfl⟩) rfl ⟨rfl, (Below.refl _ _).alloc (Nat.le_refl _) _⟩

theorem scheme_list : schemeB.toList = [100, 111, 107, 105, 109, 97, 115, 105, 97] := by unfold schemeB; simp [go_sem]

/-- Is a URI of scheme s and path t a role URI? -/
def isRole (s t : ByteArray) : Bool := hasB t prefixB && (s.toList == schemeB.toList)
/-- The role that it names. -/
def roleIn (t : ByteArray) : ByteArray := t.extract prefixB.size t.size

/-- r, ok: the role that n URIs name: that of the first role URI. -/
def RoleIs (n : Nat) (S T : Nat → ByteArray) (r : ByteArray) (ok : Bool) : Prop :=
  (ok = true ∧ ∃ i, i < n ∧ isRole (S i) (T i) = true ∧ (∀ j, j < i → isRole (S j) (T j) = false) ∧ r = roleIn (T i)) ∨
  (ok = false ∧ ∀ j, j < n → isRole (S j) (T j) = false)

def RoleOut (w : World) (n : Nat) (S T : Nat → ByteArray) (e : Ending) (w' : World) : Prop :=
  w = w' ∧ ∃ r ok, e = .returned (.tuple #[.string r, .bool ok]) ∧ RoleIs n S T r ok

set_option maxHeartbeats 1000000 in
theorem role13 (g : Nat) (v : Value) (n : Nat) (S T : Nat → ByteArray) (w : World) (hn : n ≤ 4194305) (h : CertAt w g v n S T) :
    Calls Try.prog 13 #[.pointer (some ⟨g, 0, none⟩)] w (RoleOut w n S T) := by
  obtain ⟨hg, _, a, c, hc, hu⟩ := h
  have HU : Hid (URIsAt w a n S T) := hu
  clear hu
  go_enter Try.func13, Try.ntmps13
  go_wp2
  go_loop [13] (fun i => ∃ k : Nat, k ≤ n ∧ i = .int .i64 k ∧ Hid (∀ j, j < k → isRole (S j) (T j) = false)) (fun i => n - (intOf i).toNat)
  case atStart => exact ⟨0, Nat.zero_le _, rfl, fun j hj => by omega⟩
  case round =>
    obtain ⟨k, hk, rfl, R⟩ := hrel
    by_cases hlt : k < n
    · obtain ⟨b, o, u, rfl, hb, hub, c1, c2, c3⟩ := HU.out k hlt
      have hI : (k : Int) < (n : Int) := by omega
      cases hp : hasB (T k) prefixB with
      | true =>
        have HP : Hid (hasB (T k) prefixB = true) := hp
        clear hp
        cases hq : ((S k).toList == schemeB.toList) with
        | true =>
          have HH : Hid (isRole (S k) (T k) = true) := by unfold Hid isRole; rw [HP.out, hq]; rfl
          have hq' : ((S k).toList == [100, 111, 107, 105, 109, 97, 115, 105, 97]) = true := by rw [← scheme_list]; exact hq
          clear hq
          go_wp2_with (go_at_call 41; refine (cut41_yes _ prefixB _ HP.out).mono ?_; rintro e w' ⟨rfl, rfl⟩)
          go_ret2
          exact ⟨rfl, _, _, rfl, .inl ⟨rfl, k, hlt, HH.out, R.out, rfl⟩⟩
        | false =>
          have HH : Hid (isRole (S k) (T k) = false) := by unfold Hid isRole; rw [HP.out, hq]; rfl
          have hq' : ((S k).toList == [100, 111, 107, 105, 109, 97, 115, 105, 97]) = false := by rw [← scheme_list]; exact hq
          clear hq
          go_wp2_with (go_at_call 41; refine (cut41_yes _ prefixB _ HP.out).mono ?_; rintro e w' ⟨rfl, rfl⟩)
          go_round
          case rel => exact ⟨k + 1, by omega, by go_num, fun j hj => by
            rcases Nat.lt_succ_iff_lt_or_eq.1 hj with h | rfl
            · exact R.out j h
            · exact HH.out⟩
          case measure => simp [intOf]; omega
      | false =>
        have HH : Hid (isRole (S k) (T k) = false) := by unfold Hid isRole; rw [hp]; rfl
        have HP : Hid (hasB (T k) prefixB = false) := hp
        clear hp
        go_wp2_with (go_at_call 41; refine (cut41_no _ prefixB _ HP.out).mono ?_; rintro e w' ⟨rfl, rfl⟩)
        go_round
        case rel => exact ⟨k + 1, by omega, by go_num, fun j hj => by
          rcases Nat.lt_succ_iff_lt_or_eq.1 hj with h | rfl
          · exact R.out j h
          · exact HH.out⟩
        case measure => simp [intOf]; omega
    · go_wp2
      go_ret2
      exact ⟨rfl, _, _, rfl, .inr ⟨rfl, fun j hj => R.out j (by omega)⟩⟩
end Go.Proofs.Qxb6616928a
