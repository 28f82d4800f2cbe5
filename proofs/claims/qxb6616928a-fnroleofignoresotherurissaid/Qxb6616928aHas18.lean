import Derived.Test.Qxb6616928aCut
namespace Go.Proofs.Qxb6616928a
open Go.RowKit

theorem extract_head (s : ByteArray) (k : Nat) : (s.extract 0 k).toList = s.data.toList.take k := by
  rw [ByteArray.toList_eq, ByteArray.data_extract]; simp

theorem hasB_all {s p : ByteArray} (hsz : p.size ≤ s.size) (h : ∀ j, j < p.size → s.data.toList[j]? = p.data.toList[j]?) : hasB s p = true := by
  unfold hasB
  rw [decide_eq_true hsz, extract_head, ByteArray.toList_eq p]
  have e : s.data.toList.take p.size = p.data.toList := by
    apply List.ext_getElem?
    intro j
    rw [List.getElem?_take]
    by_cases hj : j < p.size
    · rw [if_pos hj]; exact h j hj
    · rw [if_neg hj, List.getElem?_eq_none (by simpa using hj)]
  rw [e]; simp

theorem hasB_not {s p : ByteArray} {k : Nat} (hk : k < p.size) (hk' : k < s.size) (h : (((s[k]'hk').toNat : Int) != ((p[k]'hk).toNat : Int)) = true) : hasB s p = false := by
  cases hb : hasB s p with
  | false => rfl
  | true =>
    unfold hasB at hb
    rw [extract_head, ByteArray.toList_eq p] at hb
    simp only [Bool.and_eq_true, decide_eq_true_eq, beq_iff_eq] at hb
    have e := congrArg (fun l => l[k]?) hb.2
    simp only [List.getElem?_take, if_pos hk] at e
    have es : s.data.toList[k]? = some (s[k]'hk') := by rw [List.getElem?_eq_getElem (by simpa using hk')]; rfl
    have ep : p.data.toList[k]? = some (p[k]'hk) := by rw [List.getElem?_eq_getElem (by simpa using hk)]; rfl
    rw [es, ep] at e
    simp only [Option.some.injEq] at e
    rw [e] at h
    simp at h

theorem hasB_same {s p : ByteArray} {k : Nat} (hk : k < p.size) (hk' : k < s.size) (h : (((s[k]'hk').toNat : Int) != ((p[k]'hk).toNat : Int)) = false) : s.data.toList[k]? = p.data.toList[k]? := by
  have es : s.data.toList[k]? = some (s[k]'hk') := by rw [List.getElem?_eq_getElem (by simpa using hk')]; rfl
  have ep : p.data.toList[k]? = some (p[k]'hk) := by rw [List.getElem?_eq_getElem (by simpa using hk)]; rfl
  have h' : (s[k]'hk').toNat = (p[k]'hk).toNat := by
    have := bne_eq_false_iff_eq.1 h
    omega
  rw [es, ep, UInt8.toNat_inj.1 h']

/-- The answer of zzHasPrefix; it may draw. -/
def HasOut (s p : ByteArray) (w : World) (e : Ending) (w' : World) : Prop := e = .returned (.bool (hasB s p)) ∧ ∃ m, w' = w.drewN m

set_option maxHeartbeats 1000000 in
theorem has18 (s p : ByteArray) (w : World) (hp : p.size ≤ 1048576) :
    Calls Try.prog 18 #[.string s, .string p] w (HasOut s p w) := by
  by_cases hsz : (s.size : Int) < (p.size : Int)
  · have F : Hid (hasB s p = false) := by unfold Hid hasB; rw [decide_eq_false (by omega)]; rfl
    go_enter Try.func18, Try.ntmps18
    go_wp2
    go_ret
    exact ⟨by show Ending.returned (.bool false) = _; rw [F.out], 0, rfl⟩
  · go_enter Try.func18, Try.ntmps18
    go_wp2
    go_loopw [5] (fun i wr => ∃ k : Nat, k ≤ p.size ∧ i = .int .i64 k ∧ Hid (∀ j, j < k → s.data.toList[j]? = p.data.toList[j]?) ∧ ∃ m, wr = w.drewN m) (fun i _ => p.size - (intOf i).toNat)
    case atStart => exact ⟨0, Nat.zero_le _, rfl, fun j hj => by omega, 0, rfl⟩
    case round =>
      obtain ⟨k, hk, rfl, R, m, rfl⟩ := hrel
      by_cases hlt : k < p.size
      · have hlt' : k < s.size := by omega
        have hI : (k : Int) < (p.size : Int) := by omega
        have hI' : (k : Int) < (s.size : Int) := by omega
        go_wp2
        go_quiet (fail)
        go_wp2
        · have h := hasB_not hlt hlt' (by assumption)
          go_ret
          exact ⟨by show Ending.returned (.bool false) = _; rw [h], _, World.drewN_drewN ..⟩
        · have h := hasB_same hlt hlt' (by assumption)
          go_roundw
          case rel => exact ⟨k + 1, by omega, by go_num, fun j hj => by
            rcases Nat.lt_succ_iff_lt_or_eq.1 hj with h' | rfl
            · exact R.out j h'
            · exact h, _, rfl⟩
          case measure => simp [intOf]; omega
      · have F : Hid (hasB s p = true) := hasB_all (by omega) (fun j hj => R.out j (by omega))
        go_wp2
        go_ret
        exact ⟨by show Ending.returned (.bool true) = _; rw [F.out], _, rfl⟩
end Go.Proofs.Qxb6616928a
