/-
  No cell of these rows narrows 'for every input' (looked for: loops, veiled, ifaces, maps, wideKeys, modest, calm, conditions, laid).
  DERIVED. THE GIVEN ROWS OF THIS SEAT. 5 by the template 'for every input the law returns true; each argument reads behind the call as it read before'; 0 by the template 'total and deterministic' (their statements: Qxb6601574aTotals.lean).
  GIVEN WITH THE SEED: the statements are not yours to turn. If you find one false, say at which input.
  Laid BY PROGRAM, IN A SANDBOX (cutbox-rows.mjs): the forced cells as the released guide's own fill.sh prints them over the translation 56a7b112ec1ae69f… (all of the seat's roots in one cut). By AI agents, Wed Nov 11 2026. No macro, syntax, notation, axiom, sorry.
-/
import Derived.Test.Qxb6601574aChecked
import GoSem.Claim
import GoSem.ClaimJoined
import GoSem.ClaimMapViews
import Derived.JoinedTies
import Derived.KernelRfl
namespace Go.Proofs.Qxb6601574a
/- THE CELL 'sum', in the pinned program and in every row, IS THE sha256 OF THE DUMP (.gsa) THAT Qxb6601574aProg.lean LOADS. Nothing in Lean hashes anything: it is a label: what it is worth is what the hold of that sum in a sandbox is worth. -/
noncomputable def Try.pinned : Pinned := { name := "qxb6601574a", sum := "56a7b112ec1ae69f4990a7a1af0f30b0666f686683c7f8f5694ea7f3294f66a5", checked := Try.checked }
namespace Rows
def none {H : Type} : Left H := { results := [], args := [] }

/-- 'zzlaws_internal_rules_b1.FnApplyCaseTable': WHATEVER THE INPUT: true; the input reads as it did. -/
def fnApplyCaseTableSpec : ChangeSpec := { name := "fnApplyCaseTable", fn := fun _ => fun
  | [d1, d2, d3, d4, d5, d6, d7] => { results := [.lit (.bool true)], args := [d1, d2, d3, d4, d5, d6, d7] }
  | _ => none }
def fnApplyCaseTableRow : OpenClaim := { program := "qxb6601574a", sum := "56a7b112ec1ae69f4990a7a1af0f30b0666f686683c7f8f5694ea7f3294f66a5", func := "example.com/varco/varco/zzlaws_internal_rules_b1.FnApplyCaseTable", spec := "fnApplyCaseTable", apart := false }
def FnApplyCaseTableSaid : Prop := fnApplyCaseTableRow.holds Try.pinned (OpenSpec.ofChange fnApplyCaseTableSpec)

/-- ITS FALSE NEIGHBOUR: 'it returns false'. Refute it at one input. -/
def fnApplyCaseTableWrong : ChangeSpec := { name := "fnApplyCaseTable", fn := fun _ => fun
  | [d1, d2, d3, d4, d5, d6, d7] => { results := [.lit (.bool false)], args := [d1, d2, d3, d4, d5, d6, d7] }
  | _ => none }
def FnApplyCaseTableWrongFalsely : Prop := fnApplyCaseTableRow.holds Try.pinned (OpenSpec.ofChange fnApplyCaseTableWrong)

/-- 'zzlaws_internal_rules_b1.FnApplyIdempotent': WHATEVER THE INPUT: true; the input reads as it did. -/
def fnApplyIdempotentSpec : ChangeSpec := { name := "fnApplyIdempotent", fn := fun _ => fun
  | [d1, d2, d3, d4, d5, d6, d7] => { results := [.lit (.bool true)], args := [d1, d2, d3, d4, d5, d6, d7] }
  | _ => none }
def fnApplyIdempotentRow : OpenClaim := { program := "qxb6601574a", sum := "56a7b112ec1ae69f4990a7a1af0f30b0666f686683c7f8f5694ea7f3294f66a5", func := "example.com/varco/varco/zzlaws_internal_rules_b1.FnApplyIdempotent", spec := "fnApplyIdempotent", apart := false }
def FnApplyIdempotentSaid : Prop := fnApplyIdempotentRow.holds Try.pinned (OpenSpec.ofChange fnApplyIdempotentSpec)

/-- ITS FALSE NEIGHBOUR: 'it returns false'. Refute it at one input. -/
def fnApplyIdempotentWrong : ChangeSpec := { name := "fnApplyIdempotent", fn := fun _ => fun
  | [d1, d2, d3, d4, d5, d6, d7] => { results := [.lit (.bool false)], args := [d1, d2, d3, d4, d5, d6, d7] }
  | _ => none }
def FnApplyIdempotentWrongFalsely : Prop := fnApplyIdempotentRow.holds Try.pinned (OpenSpec.ofChange fnApplyIdempotentWrong)

/-- 'zzlaws_internal_rules_b1.FnApplyGeographicAndMobileAgree': WHATEVER THE INPUT: true; the input reads as it did. -/
def fnApplyGeographicAndMobileAgreeSpec : ChangeSpec := { name := "fnApplyGeographicAndMobileAgree", fn := fun _ => fun
  | [d1, d2, d3, d4, d5, d6] => { results := [.lit (.bool true)], args := [d1, d2, d3, d4, d5, d6] }
  | _ => none }
def fnApplyGeographicAndMobileAgreeRow : OpenClaim := { program := "qxb6601574a", sum := "56a7b112ec1ae69f4990a7a1af0f30b0666f686683c7f8f5694ea7f3294f66a5", func := "example.com/varco/varco/zzlaws_internal_rules_b1.FnApplyGeographicAndMobileAgree", spec := "fnApplyGeographicAndMobileAgree", apart := false }
def FnApplyGeographicAndMobileAgreeSaid : Prop := fnApplyGeographicAndMobileAgreeRow.holds Try.pinned (OpenSpec.ofChange fnApplyGeographicAndMobileAgreeSpec)

/-- ITS FALSE NEIGHBOUR: 'it returns false'. Refute it at one input. -/
def fnApplyGeographicAndMobileAgreeWrong : ChangeSpec := { name := "fnApplyGeographicAndMobileAgree", fn := fun _ => fun
  | [d1, d2, d3, d4, d5, d6] => { results := [.lit (.bool false)], args := [d1, d2, d3, d4, d5, d6] }
  | _ => none }
def FnApplyGeographicAndMobileAgreeWrongFalsely : Prop := fnApplyGeographicAndMobileAgreeRow.holds Try.pinned (OpenSpec.ofChange fnApplyGeographicAndMobileAgreeWrong)

/-- 'zzlaws_internal_rules_b1.FnPresentedFromNeverShowsWithheld': WHATEVER THE INPUT: true; the input reads as it did. -/
def fnPresentedFromNeverShowsWithheldSpec : ChangeSpec := { name := "fnPresentedFromNeverShowsWithheld", fn := fun _ => fun
  | [d1, d2, d3] => { results := [.lit (.bool true)], args := [d1, d2, d3] }
  | _ => none }
def fnPresentedFromNeverShowsWithheldRow : OpenClaim := { program := "qxb6601574a", sum := "56a7b112ec1ae69f4990a7a1af0f30b0666f686683c7f8f5694ea7f3294f66a5", func := "example.com/varco/varco/zzlaws_internal_rules_b1.FnPresentedFromNeverShowsWithheld", spec := "fnPresentedFromNeverShowsWithheld", apart := false }
def FnPresentedFromNeverShowsWithheldSaid : Prop := fnPresentedFromNeverShowsWithheldRow.holds Try.pinned (OpenSpec.ofChange fnPresentedFromNeverShowsWithheldSpec)

/-- ITS FALSE NEIGHBOUR: 'it returns false'. Refute it at one input. -/
def fnPresentedFromNeverShowsWithheldWrong : ChangeSpec := { name := "fnPresentedFromNeverShowsWithheld", fn := fun _ => fun
  | [d1, d2, d3] => { results := [.lit (.bool false)], args := [d1, d2, d3] }
  | _ => none }
def FnPresentedFromNeverShowsWithheldWrongFalsely : Prop := fnPresentedFromNeverShowsWithheldRow.holds Try.pinned (OpenSpec.ofChange fnPresentedFromNeverShowsWithheldWrong)

/-- 'zzlaws_internal_rules_b1.FnPresentedFromFlagsWhereIrrelevant': WHATEVER THE INPUT: true; the input reads as it did. -/
def fnPresentedFromFlagsWhereIrrelevantSpec : ChangeSpec := { name := "fnPresentedFromFlagsWhereIrrelevant", fn := fun _ => fun
  | [d] => { results := [.lit (.bool true)], args := [d] }
  | _ => none }
def fnPresentedFromFlagsWhereIrrelevantRow : OpenClaim := { program := "qxb6601574a", sum := "56a7b112ec1ae69f4990a7a1af0f30b0666f686683c7f8f5694ea7f3294f66a5", func := "example.com/varco/varco/zzlaws_internal_rules_b1.FnPresentedFromFlagsWhereIrrelevant", spec := "fnPresentedFromFlagsWhereIrrelevant", apart := false }
def FnPresentedFromFlagsWhereIrrelevantSaid : Prop := fnPresentedFromFlagsWhereIrrelevantRow.holds Try.pinned (OpenSpec.ofChange fnPresentedFromFlagsWhereIrrelevantSpec)

/-- ITS FALSE NEIGHBOUR: 'it returns false'. Refute it at one input. -/
def fnPresentedFromFlagsWhereIrrelevantWrong : ChangeSpec := { name := "fnPresentedFromFlagsWhereIrrelevant", fn := fun _ => fun
  | [d] => { results := [.lit (.bool false)], args := [d] }
  | _ => none }
def FnPresentedFromFlagsWhereIrrelevantWrongFalsely : Prop := fnPresentedFromFlagsWhereIrrelevantRow.holds Try.pinned (OpenSpec.ofChange fnPresentedFromFlagsWhereIrrelevantWrong)

end Rows
end Go.Proofs.Qxb6601574a
