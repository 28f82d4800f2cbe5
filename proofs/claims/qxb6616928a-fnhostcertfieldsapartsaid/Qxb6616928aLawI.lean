import Derived.Test.Qxb6616928aLawU
import Derived.Test.Qxb6616928aConcat
namespace Go.Proofs.Qxb6616928a

theorem role_total (n : Nat) (S T : Nat → ByteArray) : ∃ r ok, RoleIs n S T r ok := by
  induction n with
  | zero => exact ⟨ByteArray.empty, false, .inr ⟨rfl, fun j hj => by omega⟩⟩
  | succ n ih =>
    obtain ⟨r, ok, h⟩ := ih
    rcases h with ⟨rfl, i, hi, h1, h2, h3⟩ | ⟨rfl, hno⟩
    · exact ⟨r, true, .inl ⟨rfl, i, by omega, h1, h2, h3⟩⟩
    · cases hn : isRole (S n) (T n) with
      | true => exact ⟨roleIn (T n), true, .inl ⟨rfl, n, by omega, hn, hno, rfl⟩⟩
      | false => exact ⟨r, false, .inr ⟨rfl, fun j hj => by
          rcases Nat.lt_succ_iff_lt_or_eq.1 hj with h | rfl
          · exact hno j h
          · exact hn⟩⟩

theorem role_unique {n : Nat} {S T : Nat → ByteArray} {r r' : ByteArray} {ok ok' : Bool} (h : RoleIs n S T r ok) (h' : RoleIs n S T r' ok') : ok = ok' ∧ (ok = true → r = r') := by
  rcases h with ⟨rfl, i, hi, h1, h2, rfl⟩ | ⟨rfl, hno⟩
  · rcases h' with ⟨rfl, j, hj, g1, g2, rfl⟩ | ⟨rfl, hno⟩
    · refine ⟨rfl, fun _ => ?_⟩
      have : i = j := by
        rcases Nat.lt_trichotomy i j with h | h | h
        · rw [g2 i h] at h1; cases h1
        · exact h
        · rw [h2 j h] at g1; cases g1
      rw [this]
    · rw [hno i hi] at h1; cases h1
  · rcases h' with ⟨rfl, j, hj, g1, g2, rfl⟩ | ⟨rfl, _⟩
    · rw [hno j hj] at g1; cases g1
    · exact ⟨rfl, fun h => by cases h⟩

theorem joinF_gt {S0 S2 : Nat → ByteArray} {n0 i : Nat} {d : ByteArray} (h : n0 < i) : joinF S0 n0 d S2 i = concatF S0 n0 S2 (i - 1) := by
  unfold joinF concatF
  rw [if_neg (by omega), if_neg (by omega), if_neg (by omega)]
  congr 1
  omega
theorem concatF_lt {S0 S2 : Nat → ByteArray} {n0 i : Nat} (h : i < n0) : concatF S0 n0 S2 i = S0 i := by simp [concatF, h]

/-- A URI that names no role, put in, changes nothing. -/
theorem role_drop {n0 n2 : Nat} {S0 T0 S2 T2 : Nat → ByteArray} {s t r : ByteArray} {ok : Bool} (hno : isRole s t = false)
    (h : RoleIs (n0 + 1 + n2) (joinF S0 n0 s S2) (joinF T0 n0 t T2) r ok) : RoleIs (n0 + n2) (concatF S0 n0 S2) (concatF T0 n0 T2) r ok := by
  have lo : ∀ i, i < n0 → joinF S0 n0 s S2 i = concatF S0 n0 S2 i ∧ joinF T0 n0 t T2 i = concatF T0 n0 T2 i := fun i hi => by
    rw [joinF_lt hi, joinF_lt hi, concatF_lt hi, concatF_lt hi]; exact ⟨rfl, rfl⟩
  have up : ∀ i, n0 ≤ i → concatF S0 n0 S2 i = joinF S0 n0 s S2 (i + 1) ∧ concatF T0 n0 T2 i = joinF T0 n0 t T2 (i + 1) := fun i hi => by
    rw [joinF_gt (by omega), joinF_gt (by omega)]; exact ⟨rfl, rfl⟩
  have clear : ∀ j, (∀ i, i ≤ j → isRole (joinF S0 n0 s S2 i) (joinF T0 n0 t T2 i) = false) → isRole (concatF S0 n0 S2 j) (concatF T0 n0 T2 j) = true → isRole (joinF S0 n0 s S2 (j + 1)) (joinF T0 n0 t T2 (j + 1)) = true := fun j hj h => by
    rcases Nat.lt_or_ge j n0 with hl | hl
    · rw [← (lo j hl).1, ← (lo j hl).2, hj j (Nat.le_refl _)] at h; cases h
    · rw [← (up j hl).1, ← (up j hl).2]; exact h
  rcases h with ⟨rfl, i, hi, h1, h2, rfl⟩ | ⟨rfl, hall⟩
  · rcases Nat.lt_trichotomy i n0 with hlt | heq | hgt
    · refine .inl ⟨rfl, i, by omega, by rw [← (lo i hlt).1, ← (lo i hlt).2]; exact h1, fun j hj => ?_, by rw [← (lo i hlt).2]⟩
      rw [← (lo j (by omega)).1, ← (lo j (by omega)).2]; exact h2 j hj
    · subst heq
      rw [joinF_at, joinF_at, hno] at h1; cases h1
    · have e := up (i - 1) (by omega)
      rw [show i - 1 + 1 = i by omega] at e
      refine .inl ⟨rfl, i - 1, by omega, by rw [e.1, e.2]; exact h1, fun j hj => ?_, by rw [e.2]⟩
      rcases Nat.lt_or_ge j n0 with hl | hl
      · rw [← (lo j hl).1, ← (lo j hl).2]; exact h2 j (by omega)
      · rw [(up j hl).1, (up j hl).2]; exact h2 (j + 1) (by omega)
  · refine .inr ⟨rfl, fun j hj => ?_⟩
    rcases Nat.lt_or_ge j n0 with hl | hl
    · rw [← (lo j hl).1, ← (lo j hl).2]; exact hall j (by omega)
    · rw [(up j hl).1, (up j hl).2]; exact hall (j + 1) (by omega)

/-- THE PLAIN LAW of FnRoleOfIgnoresOtherURIs. -/
theorem role_ignores {n0 n2 : Nat} {S0 T0 S2 T2 E F E' F' : Nat → ByteArray} {s t r plain without with_ : ByteArray} {okP okO okW : Bool} (hno : isRole s t = false)
    (hP : RoleIs (n0 + n2) (concatF S0 n0 S2) (concatF T0 n0 T2) plain okP)
    (hO : RoleIs (n0 + n2 + 1 + 0) (joinF (concatF S0 n0 S2) (n0 + n2) schemeB E) (joinF (concatF T0 n0 T2) (n0 + n2) (prefixB ++ r) F) without okO)
    (hW : RoleIs (n0 + 1 + n2 + 1 + 0) (joinF (joinF S0 n0 s S2) (n0 + 1 + n2) schemeB E') (joinF (joinF T0 n0 t T2) (n0 + 1 + n2) (prefixB ++ r) F') with_ okW) :
    okO = true ∧ okW = true ∧ with_ = without ∧ (okP = true → without = plain) ∧ (okP = false → without = r) := by
  obtain ⟨x, okX, hX⟩ := role_total (n0 + 1 + n2) (joinF S0 n0 s S2) (joinF T0 n0 t T2)
  obtain ⟨o1, o2, o3⟩ := role_first hP hO
  obtain ⟨w1, w2, w3⟩ := role_first hX hW
  obtain ⟨e1, e2⟩ := role_unique (role_drop hno hX) hP
  subst e1
  refine ⟨o1, w1, ?_, o2, o3⟩
  cases okX with
  | true => rw [w2 rfl, o2 rfl, e2 rfl]
  | false => rw [w3 rfl, o3 rfl]
end Go.Proofs.Qxb6616928a
