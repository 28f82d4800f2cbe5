/-
  No cell of these rows narrows 'for every input' (looked for: loops, veiled, ifaces, maps, wideKeys, modest, calm, conditions, laid).
  DERIVED. THE GIVEN ROWS OF THIS SEAT. 7 by the template 'for every input the law returns true; each argument reads behind the call as it read before'; 0 by the template 'total and deterministic' (their statements: Qxb6616928aTotals.lean).
  GIVEN WITH THE SEED: the statements are not yours to turn. If you find one false, say at which input.
  Laid BY PROGRAM, IN A SANDBOX (cutbox-rows.mjs): the forced cells as the released guide's own fill.sh prints them over the translation 94c81837f6c569e9… (all of the seat's roots in one cut). By AI agents, Wed Nov 11 2026. No macro, syntax, notation, axiom, sorry.
-/
import Derived.Test.Qxb6616928aChecked
import GoSem.Claim
import GoSem.ClaimJoined
import GoSem.ClaimMapViews
import Derived.JoinedTies
import Derived.KernelRfl
namespace Go.Proofs.Qxb6616928a
/- THE CELL 'sum', in the pinned program and in every row, IS THE sha256 OF THE DUMP (.gsa) THAT Qxb6616928aProg.lean LOADS. Nothing in Lean hashes anything: it is a label: what it is worth is what the hold of that sum in a sandbox is worth. -/
noncomputable def Try.pinned : Pinned := { name := "qxb6616928a", sum := "94c81837f6c569e9736e2bca7a80768ae68de63d9b6a3300f072959861600329", checked := Try.checked }
namespace Rows
def none {H : Type} : Left H := { results := [], args := [] }

/-- 'zzlaws_internal_ca_b1.FnRoleOfFirstRoleURIWins': WHATEVER THE INPUT: true; the input reads as it did. -/
def fnRoleOfFirstRoleURIWinsSpec : ChangeSpec := { name := "fnRoleOfFirstRoleURIWins", fn := fun _ => fun
  | [d1, d2, d3] => { results := [.lit (.bool true)], args := [d1, d2, d3] }
  | _ => none }
def fnRoleOfFirstRoleURIWinsRow : OpenClaim := { program := "qxb6616928a", sum := "94c81837f6c569e9736e2bca7a80768ae68de63d9b6a3300f072959861600329", func := "example.com/dokimasia/dokimasia/zzlaws_internal_ca_b1.FnRoleOfFirstRoleURIWins", spec := "fnRoleOfFirstRoleURIWins", apart := false }
def FnRoleOfFirstRoleURIWinsSaid : Prop := fnRoleOfFirstRoleURIWinsRow.holds Try.pinned (OpenSpec.ofChange fnRoleOfFirstRoleURIWinsSpec)

/-- ITS FALSE NEIGHBOUR: 'it returns false'. Refute it at one input. -/
def fnRoleOfFirstRoleURIWinsWrong : ChangeSpec := { name := "fnRoleOfFirstRoleURIWins", fn := fun _ => fun
  | [d1, d2, d3] => { results := [.lit (.bool false)], args := [d1, d2, d3] }
  | _ => none }
def FnRoleOfFirstRoleURIWinsWrongFalsely : Prop := fnRoleOfFirstRoleURIWinsRow.holds Try.pinned (OpenSpec.ofChange fnRoleOfFirstRoleURIWinsWrong)

/-- 'zzlaws_internal_ca_b1.FnRoleOfIgnoresOtherURIs': WHATEVER THE INPUT: true; the input reads as it did. -/
def fnRoleOfIgnoresOtherURIsSpec : ChangeSpec := { name := "fnRoleOfIgnoresOtherURIs", fn := fun _ => fun
  | [d1, d2, d3, d4] => { results := [.lit (.bool true)], args := [d1, d2, d3, d4] }
  | _ => none }
def fnRoleOfIgnoresOtherURIsRow : OpenClaim := { program := "qxb6616928a", sum := "94c81837f6c569e9736e2bca7a80768ae68de63d9b6a3300f072959861600329", func := "example.com/dokimasia/dokimasia/zzlaws_internal_ca_b1.FnRoleOfIgnoresOtherURIs", spec := "fnRoleOfIgnoresOtherURIs", apart := false }
def FnRoleOfIgnoresOtherURIsSaid : Prop := fnRoleOfIgnoresOtherURIsRow.holds Try.pinned (OpenSpec.ofChange fnRoleOfIgnoresOtherURIsSpec)

/-- ITS FALSE NEIGHBOUR: 'it returns false'. Refute it at one input. -/
def fnRoleOfIgnoresOtherURIsWrong : ChangeSpec := { name := "fnRoleOfIgnoresOtherURIs", fn := fun _ => fun
  | [d1, d2, d3, d4] => { results := [.lit (.bool false)], args := [d1, d2, d3, d4] }
  | _ => none }
def FnRoleOfIgnoresOtherURIsWrongFalsely : Prop := fnRoleOfIgnoresOtherURIsRow.holds Try.pinned (OpenSpec.ofChange fnRoleOfIgnoresOtherURIsWrong)

/-- 'zzlaws_internal_ca_b1.FnNodeNameOfFirstNameWins': WHATEVER THE INPUT: true; the input reads as it did. -/
def fnNodeNameOfFirstNameWinsSpec : ChangeSpec := { name := "fnNodeNameOfFirstNameWins", fn := fun _ => fun
  | [d1, d2, d3] => { results := [.lit (.bool true)], args := [d1, d2, d3] }
  | _ => none }
def fnNodeNameOfFirstNameWinsRow : OpenClaim := { program := "qxb6616928a", sum := "94c81837f6c569e9736e2bca7a80768ae68de63d9b6a3300f072959861600329", func := "example.com/dokimasia/dokimasia/zzlaws_internal_ca_b1.FnNodeNameOfFirstNameWins", spec := "fnNodeNameOfFirstNameWins", apart := false }
def FnNodeNameOfFirstNameWinsSaid : Prop := fnNodeNameOfFirstNameWinsRow.holds Try.pinned (OpenSpec.ofChange fnNodeNameOfFirstNameWinsSpec)

/-- ITS FALSE NEIGHBOUR: 'it returns false'. Refute it at one input. -/
def fnNodeNameOfFirstNameWinsWrong : ChangeSpec := { name := "fnNodeNameOfFirstNameWins", fn := fun _ => fun
  | [d1, d2, d3] => { results := [.lit (.bool false)], args := [d1, d2, d3] }
  | _ => none }
def FnNodeNameOfFirstNameWinsWrongFalsely : Prop := fnNodeNameOfFirstNameWinsRow.holds Try.pinned (OpenSpec.ofChange fnNodeNameOfFirstNameWinsWrong)

/-- 'zzlaws_internal_ca_b1.FnHostCertFieldsApart': WHATEVER THE INPUT: true; the input reads as it did. -/
def fnHostCertFieldsApartSpec : ChangeSpec := { name := "fnHostCertFieldsApart", fn := fun _ => fun
  | [d1, d2, d3, d4] => { results := [.lit (.bool true)], args := [d1, d2, d3, d4] }
  | _ => none }
def fnHostCertFieldsApartRow : OpenClaim := { program := "qxb6616928a", sum := "94c81837f6c569e9736e2bca7a80768ae68de63d9b6a3300f072959861600329", func := "example.com/dokimasia/dokimasia/zzlaws_internal_ca_b1.FnHostCertFieldsApart", spec := "fnHostCertFieldsApart", apart := false }
def FnHostCertFieldsApartSaid : Prop := fnHostCertFieldsApartRow.holds Try.pinned (OpenSpec.ofChange fnHostCertFieldsApartSpec)

/-- ITS FALSE NEIGHBOUR: 'it returns false'. Refute it at one input. -/
def fnHostCertFieldsApartWrong : ChangeSpec := { name := "fnHostCertFieldsApart", fn := fun _ => fun
  | [d1, d2, d3, d4] => { results := [.lit (.bool false)], args := [d1, d2, d3, d4] }
  | _ => none }
def FnHostCertFieldsApartWrongFalsely : Prop := fnHostCertFieldsApartRow.holds Try.pinned (OpenSpec.ofChange fnHostCertFieldsApartWrong)

/-- 'zzlaws_internal_ca_b1.FnNewestIssuesFromHandover': WHATEVER THE INPUT: true; the input reads as it did. -/
def fnNewestIssuesFromHandoverSpec : ChangeSpec := { name := "fnNewestIssuesFromHandover", fn := fun _ => fun
  | [d1, d2, d3, d4, d5, d6, d7, d8, d9, d10] => { results := [.lit (.bool true)], args := [d1, d2, d3, d4, d5, d6, d7, d8, d9, d10] }
  | _ => none }
def fnNewestIssuesFromHandoverRow : OpenClaim := { program := "qxb6616928a", sum := "94c81837f6c569e9736e2bca7a80768ae68de63d9b6a3300f072959861600329", func := "example.com/dokimasia/dokimasia/zzlaws_internal_ca_b1.FnNewestIssuesFromHandover", spec := "fnNewestIssuesFromHandover", apart := false }
def FnNewestIssuesFromHandoverSaid : Prop := fnNewestIssuesFromHandoverRow.holds Try.pinned (OpenSpec.ofChange fnNewestIssuesFromHandoverSpec)

/-- ITS FALSE NEIGHBOUR: 'it returns false'. Refute it at one input. -/
def fnNewestIssuesFromHandoverWrong : ChangeSpec := { name := "fnNewestIssuesFromHandover", fn := fun _ => fun
  | [d1, d2, d3, d4, d5, d6, d7, d8, d9, d10] => { results := [.lit (.bool false)], args := [d1, d2, d3, d4, d5, d6, d7, d8, d9, d10] }
  | _ => none }
def FnNewestIssuesFromHandoverWrongFalsely : Prop := fnNewestIssuesFromHandoverRow.holds Try.pinned (OpenSpec.ofChange fnNewestIssuesFromHandoverWrong)

/-- 'zzlaws_internal_ca_b1.FnNewestThroughRevocationList': WHATEVER THE INPUT: true; the input reads as it did. -/
def fnNewestThroughRevocationListSpec : ChangeSpec := { name := "fnNewestThroughRevocationList", fn := fun _ => fun
  | [d1, d2, d3, d4, d5, d6, d7, d8, d9, d10] => { results := [.lit (.bool true)], args := [d1, d2, d3, d4, d5, d6, d7, d8, d9, d10] }
  | _ => none }
def fnNewestThroughRevocationListRow : OpenClaim := { program := "qxb6616928a", sum := "94c81837f6c569e9736e2bca7a80768ae68de63d9b6a3300f072959861600329", func := "example.com/dokimasia/dokimasia/zzlaws_internal_ca_b1.FnNewestThroughRevocationList", spec := "fnNewestThroughRevocationList", apart := false }
def FnNewestThroughRevocationListSaid : Prop := fnNewestThroughRevocationListRow.holds Try.pinned (OpenSpec.ofChange fnNewestThroughRevocationListSpec)

/-- ITS FALSE NEIGHBOUR: 'it returns false'. Refute it at one input. -/
def fnNewestThroughRevocationListWrong : ChangeSpec := { name := "fnNewestThroughRevocationList", fn := fun _ => fun
  | [d1, d2, d3, d4, d5, d6, d7, d8, d9, d10] => { results := [.lit (.bool false)], args := [d1, d2, d3, d4, d5, d6, d7, d8, d9, d10] }
  | _ => none }
def FnNewestThroughRevocationListWrongFalsely : Prop := fnNewestThroughRevocationListRow.holds Try.pinned (OpenSpec.ofChange fnNewestThroughRevocationListWrong)

/-- 'zzlaws_internal_ca_b1.FnBeforeAtThroughRevocationList': WHATEVER THE INPUT: true; the input reads as it did. -/
def fnBeforeAtThroughRevocationListSpec : ChangeSpec := { name := "fnBeforeAtThroughRevocationList", fn := fun _ => fun
  | [d1, d2, d3, d4, d5, d6, d7, d8, d9, d10, d11] => { results := [.lit (.bool true)], args := [d1, d2, d3, d4, d5, d6, d7, d8, d9, d10, d11] }
  | _ => none }
def fnBeforeAtThroughRevocationListRow : OpenClaim := { program := "qxb6616928a", sum := "94c81837f6c569e9736e2bca7a80768ae68de63d9b6a3300f072959861600329", func := "example.com/dokimasia/dokimasia/zzlaws_internal_ca_b1.FnBeforeAtThroughRevocationList", spec := "fnBeforeAtThroughRevocationList", apart := false }
def FnBeforeAtThroughRevocationListSaid : Prop := fnBeforeAtThroughRevocationListRow.holds Try.pinned (OpenSpec.ofChange fnBeforeAtThroughRevocationListSpec)

/-- ITS FALSE NEIGHBOUR: 'it returns false'. Refute it at one input. -/
def fnBeforeAtThroughRevocationListWrong : ChangeSpec := { name := "fnBeforeAtThroughRevocationList", fn := fun _ => fun
  | [d1, d2, d3, d4, d5, d6, d7, d8, d9, d10, d11] => { results := [.lit (.bool false)], args := [d1, d2, d3, d4, d5, d6, d7, d8, d9, d10, d11] }
  | _ => none }
def FnBeforeAtThroughRevocationListWrongFalsely : Prop := fnBeforeAtThroughRevocationListRow.holds Try.pinned (OpenSpec.ofChange fnBeforeAtThroughRevocationListWrong)

end Rows
end Go.Proofs.Qxb6616928a
