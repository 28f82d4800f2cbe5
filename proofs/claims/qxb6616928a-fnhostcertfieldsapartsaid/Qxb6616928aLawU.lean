import Derived.Test.Qxb6616928aCut
import Derived.Test.Qxb6616928aJoinU
namespace Go.Proofs.Qxb6616928a

theorem prefix_extract (r : ByteArray) : (prefixB ++ r).extract 0 prefixB.size = prefixB := by
  apply ByteArray.ext
  simp [ByteArray.data_extract, ByteArray.data_append, Array.extract_append]
theorem prefix_rest (r : ByteArray) : (prefixB ++ r).extract prefixB.size (prefixB ++ r).size = r := by
  apply ByteArray.ext
  simp only [ByteArray.data_extract, ByteArray.data_append, Array.extract_append, ByteArray.size_append]
  apply Array.ext'
  simp only [Array.toList_append, Array.toList_extract]
  rw [← ByteArray.size_data, ← ByteArray.size_data]
  simp [List.drop_of_length_le]
  exact List.take_of_length_le (by simp)

theorem isRole_made (r : ByteArray) : isRole schemeB (prefixB ++ r) = true := by
  unfold isRole hasB
  rw [prefix_extract]
  simp [ByteArray.size_append]
theorem roleIn_made (r : ByteArray) : roleIn (prefixB ++ r) = r := prefix_rest r

theorem joinF_lt {S0 S2 : Nat → ByteArray} {n0 i : Nat} {d : ByteArray} (h : i < n0) : joinF S0 n0 d S2 i = S0 i := by simp [joinF, h]
theorem joinF_at {S0 S2 : Nat → ByteArray} {n0 : Nat} {d : ByteArray} : joinF S0 n0 d S2 n0 = d := by simp [joinF]

/-- The first role URI wins. -/
theorem role_first {n0 n2 : Nat} {S0 T0 S2 T2 : Nat → ByteArray} {r pre got : ByteArray} {ok1 ok2 : Bool} (h1 : RoleIs n0 S0 T0 pre ok1)
    (h2 : RoleIs (n0 + 1 + n2) (joinF S0 n0 schemeB S2) (joinF T0 n0 (prefixB ++ r) T2) got ok2) : ok2 = true ∧ (ok1 = true → got = pre) ∧ (ok1 = false → got = r) := by
  have hat : isRole (joinF S0 n0 schemeB S2 n0) (joinF T0 n0 (prefixB ++ r) T2 n0) = true := by rw [joinF_at, joinF_at]; exact isRole_made r
  rcases h2 with ⟨rfl, i, hi, hit, hno, rfl⟩ | ⟨rfl, hno⟩
  · refine ⟨rfl, fun e => ?_, fun e => ?_⟩
    · rcases h1 with ⟨_, j, hj, hjt, hjno, rfl⟩ | ⟨e', _⟩
      · have hij : i = j := by
          rcases Nat.lt_trichotomy i j with h | h | h
          · have := hjno i h
            rw [joinF_lt (by omega), joinF_lt (by omega), this] at hit
            cases hit
          · exact h
          · have := hno j h
            rw [joinF_lt hj, joinF_lt hj, hjt] at this
            cases this
        subst hij
        rw [joinF_lt hj]
      · rw [e] at e'; cases e'
    · rcases h1 with ⟨e', _⟩ | ⟨_, hjno⟩
      · rw [e] at e'; cases e'
      · have hij : i = n0 := by
          rcases Nat.lt_trichotomy i n0 with h | h | h
          · have := hjno i h
            rw [joinF_lt h, joinF_lt h, this] at hit
            cases hit
          · exact h
          · have := hno n0 h
            rw [hat] at this
            cases this
        subst hij
        rw [joinF_at, roleIn_made]
  · have := hno n0 (by omega)
    rw [hat] at this
    cases this

end Go.Proofs.Qxb6616928a
