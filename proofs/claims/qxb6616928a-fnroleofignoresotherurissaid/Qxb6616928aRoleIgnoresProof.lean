/- THE STATEMENT 'Rows.FnRoleOfIgnoresOtherURIsSaid': the frame round the walk. -/
import Derived.Test.Qxb6616928aRows
import Derived.Test.Qxb6616928aWalk4
import Derived.Test.Qxb6616928aOpen
import Derived.Lib.SmallJoins
namespace Go.Proofs.Qxb6616928a.roleIgnores
open Go.ChangeShapes Go.WideShapes Go.ChangeAt Go.RowKit
open Go.ChangeMaps (open_string shut_string)
set_option linter.unusedVariables false

set_option maxRecDepth 100000 in
theorem lifted (os : Os) (started : os.Started) (H : Type) (enc : TypeId × Value → H) :
    ReturnsInHanded {} Try.checked os 4 .any (Rows.fnRoleOfIgnoresOtherURIsSpec.pre6 enc Try.prog Try.f4 Rows.fnRoleOfIgnoresOtherURIsRow.domain false) (Rows.fnRoleOfIgnoresOtherURIsSpec.post enc Try.prog Try.f4 false true false false) := by
  refine returnsInHanded_of_change (C := Try.checked) Try.own started (by kernel_rfl) Try.func4
    (ChangeSpec.witness6 (enc := enc) (C := Try.checked) false ⟨#[], #[.slice none 0 0, .agg #[.string ByteArray.empty, .string ByteArray.empty], .slice none 0 0, .string ByteArray.empty], []⟩ 8 (by kernel_rfl) (by kernel_rfl) (by kernel_rfl) (by kernel_rfl)) ?_
  intro W base args ds gs before hval0 hW hcnd _
  have hval : ∀ (j : Nat) t v, Try.f4.params[j]? = some t → args[j]? = some v → Value.okWide Try.prog W .any base t v := hval0
  have hW' := hW
  obtain ⟨p, q, hA0, hV, rfl, hfz, hnd⟩ := hW
  have hA : DataW.TrodAll enc Try.prog W 0 (fun _ => true) true Try.f4.params.toList args.toList ds p := hA0
  rw [Try.params4] at hA hval
  obtain ⟨v0, vs0, d0, ds0, p0, q0, hargs, rfl, rfl, h0, r0⟩ := trodAll_cons hA
  obtain ⟨v1, vs1, d1, ds1, p1, q1, rfl, rfl, rfl, h1, r1⟩ := trodAll_cons r0
  obtain ⟨v2, vs2, d2, ds2, p2, q2, rfl, rfl, rfl, h2, r2⟩ := trodAll_cons r1
  obtain ⟨v3, vs3, d3, ds3, p3, q3, rfl, rfl, rfl, h3, r3⟩ := trodAll_cons r2
  obtain ⟨rfl, rfl, rfl⟩ := trodAll_nil r3
  obtain rfl : args = #[v0, v1, v2, v3] := by cases args; simp_all
  obtain ⟨rfl, rfl⟩ := trodVars_none hV
  obtain ⟨a0, len0, cap0, rfl⟩ := okWide_slice Try.underlying22 (hval 0 22 v0 rfl rfl)
  have k0 := h0
  have lt0 : ∀ x ∈ p0, x.block < W.heap.size := by obtain ⟨m, hm⟩ := k0; exact DataW.trod_lt m _ _ _ hm
  obtain ⟨S0, T0, w0, m0⟩ : ∃ S T : Nat → ByteArray, PairsAt W a0 len0 S T ∧ len0 ≤ maxLen := by obtain ⟨fuel, hf⟩ := h0; exact pairs_of_trod hf
  have k1 := h1
  have lt1 : ∀ x ∈ p1, x.block < W.heap.size := by obtain ⟨m, hm⟩ := k1; exact DataW.trod_lt m _ _ _ hm
  obtain ⟨s1, t1, rfl⟩ : ∃ s t : ByteArray, v1 = .agg #[.string s, .string t] := by
    obtain ⟨c0, c1, y0, y1, m, rfl, _, _, hy0, hy1⟩ := Joins.open_agg2 Try.underlying34 (by kernel_rfl) (by kernel_rfl) (hval 1 34 v1 rfl rfl) h1
    obtain ⟨s, e0, _⟩ := DataW.trod_string Try.underlying9 hy0
    obtain ⟨t, e1, _⟩ := DataW.trod_string Try.underlying9 hy1
    simp at e0 e1; subst e0 e1; exact ⟨s, t, rfl⟩
  obtain ⟨a2, len2, cap2, rfl⟩ := okWide_slice Try.underlying22 (hval 2 22 v2 rfl rfl)
  have k2 := h2
  have lt2 : ∀ x ∈ p2, x.block < W.heap.size := by obtain ⟨m, hm⟩ := k2; exact DataW.trod_lt m _ _ _ hm
  obtain ⟨S2, T2, w2, m2⟩ : ∃ S T : Nat → ByteArray, PairsAt W a2 len2 S T ∧ len2 ≤ maxLen := by obtain ⟨fuel, hf⟩ := h2; exact pairs_of_trod hf
  obtain ⟨s3, rfl, rfl, rfl, w3⟩ := open_string Try.underlying9 (hval 3 9 v3 rfl rfl) h3
  clear hA0 hval0
  refine (walk4 a0 len0 cap0 S0 T0 s1 t1 a2 len2 cap2 S2 T2 s3 W w0 w2 m0 m2 w3).mono fun e W' ⟨he, bel⟩ => ?_
  subst he
  exact ⟨_, rfl, _, _, _, [], _, [], hW', trodAll_mk1 (shut_bool Try.underlying4 _), (trodAll_cons_mk (Below.trod Try.laidOut (by kernel_rfl) (of_decide_eq_true (by kernel_rfl)) k0 bel lt0) (trodAll_cons_mk (Below.trod Try.laidOut (by kernel_rfl) (of_decide_eq_true (by kernel_rfl)) k1 bel lt1) (trodAll_cons_mk (Below.trod Try.laidOut (by kernel_rfl) (of_decide_eq_true (by kernel_rfl)) k2 bel lt2) (trodAll_cons_mk (shut_string Try.underlying9 w3) trodAll_mk0)))), rfl, bel.frame _, fun h => by cases h⟩

theorem over : Rows.fnRoleOfIgnoresOtherURIsRow.holds Try.pinned (OpenSpec.ofChange Rows.fnRoleOfIgnoresOtherURIsSpec) :=
  OpenClaim.holds_of_wide 4 Try.f4 rfl rfl rfl rfl rfl rfl rfl ⟨rfl, rfl, rfl, rfl, rfl⟩ rfl rfl rfl rfl rfl (by kernel_rfl) Try.func4 (by kernel_rfl)
    (of_decide_eq_true (by kernel_rfl)) (by unfold Func.isWrapper; first | (rw [if_pos (by decide +kernel)]; kernel_rfl) | (rw [if_neg (by decide +kernel)]; exact ⟨rfl, rfl⟩))
    (fun os started H enc _ => lifted os started H enc)

end roleIgnores

/-- THE STATEMENT -/
theorem roleIgnores_proved : Rows.FnRoleOfIgnoresOtherURIsSaid := roleIgnores.over
#print axioms roleIgnores_proved
end Go.Proofs.Qxb6616928a
