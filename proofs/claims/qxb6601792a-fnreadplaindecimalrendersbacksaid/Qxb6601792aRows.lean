/-
  No cell of these rows narrows 'for every input' (looked for: loops, veiled, ifaces, maps, wideKeys, modest, calm, conditions, laid).
  DERIVED. THE GIVEN ROWS OF THIS SEAT. 3 by the template 'for every input the law returns true; each argument reads behind the call as it read before'; 0 by the template 'total and deterministic' (their statements: Qxb6601792aTotals.lean).
  GIVEN WITH THE SEED: the statements are not yours to turn. If you find one false, say at which input.
  Laid BY PROGRAM, IN A SANDBOX (cutbox-rows.mjs): the forced cells as the released guide's own fill.sh prints them over the translation 9ca3646e848bc09f… (all of the seat's roots in one cut). By AI agents, Wed Nov 11 2026. No macro, syntax, notation, axiom, sorry.
-/
import Derived.Test.Qxb6601792aChecked
import GoSem.Claim
import GoSem.ClaimJoined
import GoSem.ClaimMapViews
import Derived.JoinedTies
import Derived.KernelRfl
namespace Go.Proofs.Qxb6601792a
/- THE CELL 'sum', in the pinned program and in every row, IS THE sha256 OF THE DUMP (.gsa) THAT Qxb6601792aProg.lean LOADS. Nothing in Lean hashes anything: it is a label: what it is worth is what the hold of that sum in a sandbox is worth. -/
noncomputable def Try.pinned : Pinned := { name := "qxb6601792a", sum := "9ca3646e848bc09fa70c81ae689fe080c5e04577b96a20d9b712ede5982234d6", checked := Try.checked }
namespace Rows
def none {H : Type} : Left H := { results := [], args := [] }

/-- 'zzlaws_internal_input_b1.FnReadPlainDecimalMatchesModel': WHATEVER THE INPUT: true; the input reads as it did. -/
def fnReadPlainDecimalMatchesModelSpec : ChangeSpec := { name := "fnReadPlainDecimalMatchesModel", fn := fun _ => fun
  | [d] => { results := [.lit (.bool true)], args := [d] }
  | _ => none }
def fnReadPlainDecimalMatchesModelRow : OpenClaim := { program := "qxb6601792a", sum := "9ca3646e848bc09fa70c81ae689fe080c5e04577b96a20d9b712ede5982234d6", func := "example.com/tuoguan/tuoguan/zzlaws_internal_input_b1.FnReadPlainDecimalMatchesModel", spec := "fnReadPlainDecimalMatchesModel", apart := false }
def FnReadPlainDecimalMatchesModelSaid : Prop := fnReadPlainDecimalMatchesModelRow.holds Try.pinned (OpenSpec.ofChange fnReadPlainDecimalMatchesModelSpec)

/-- ITS FALSE NEIGHBOUR: 'it returns false'. Refute it at one input. -/
def fnReadPlainDecimalMatchesModelWrong : ChangeSpec := { name := "fnReadPlainDecimalMatchesModel", fn := fun _ => fun
  | [d] => { results := [.lit (.bool false)], args := [d] }
  | _ => none }
def FnReadPlainDecimalMatchesModelWrongFalsely : Prop := fnReadPlainDecimalMatchesModelRow.holds Try.pinned (OpenSpec.ofChange fnReadPlainDecimalMatchesModelWrong)

/-- 'zzlaws_internal_input_b1.FnReadPlainDecimalRendersBack': WHATEVER THE INPUT: true; the input reads as it did. -/
def fnReadPlainDecimalRendersBackSpec : ChangeSpec := { name := "fnReadPlainDecimalRendersBack", fn := fun _ => fun
  | [d] => { results := [.lit (.bool true)], args := [d] }
  | _ => none }
def fnReadPlainDecimalRendersBackRow : OpenClaim := { program := "qxb6601792a", sum := "9ca3646e848bc09fa70c81ae689fe080c5e04577b96a20d9b712ede5982234d6", func := "example.com/tuoguan/tuoguan/zzlaws_internal_input_b1.FnReadPlainDecimalRendersBack", spec := "fnReadPlainDecimalRendersBack", apart := false }
def FnReadPlainDecimalRendersBackSaid : Prop := fnReadPlainDecimalRendersBackRow.holds Try.pinned (OpenSpec.ofChange fnReadPlainDecimalRendersBackSpec)

/-- ITS FALSE NEIGHBOUR: 'it returns false'. Refute it at one input. -/
def fnReadPlainDecimalRendersBackWrong : ChangeSpec := { name := "fnReadPlainDecimalRendersBack", fn := fun _ => fun
  | [d] => { results := [.lit (.bool false)], args := [d] }
  | _ => none }
def FnReadPlainDecimalRendersBackWrongFalsely : Prop := fnReadPlainDecimalRendersBackRow.holds Try.pinned (OpenSpec.ofChange fnReadPlainDecimalRendersBackWrong)

/-- 'zzlaws_internal_input_b1.FnReadPlainDecimalMinusSetsOnlySign': WHATEVER THE INPUT: true; the input reads as it did. -/
def fnReadPlainDecimalMinusSetsOnlySignSpec : ChangeSpec := { name := "fnReadPlainDecimalMinusSetsOnlySign", fn := fun _ => fun
  | [d] => { results := [.lit (.bool true)], args := [d] }
  | _ => none }
def fnReadPlainDecimalMinusSetsOnlySignRow : OpenClaim := { program := "qxb6601792a", sum := "9ca3646e848bc09fa70c81ae689fe080c5e04577b96a20d9b712ede5982234d6", func := "example.com/tuoguan/tuoguan/zzlaws_internal_input_b1.FnReadPlainDecimalMinusSetsOnlySign", spec := "fnReadPlainDecimalMinusSetsOnlySign", apart := false }
def FnReadPlainDecimalMinusSetsOnlySignSaid : Prop := fnReadPlainDecimalMinusSetsOnlySignRow.holds Try.pinned (OpenSpec.ofChange fnReadPlainDecimalMinusSetsOnlySignSpec)

/-- ITS FALSE NEIGHBOUR: 'it returns false'. Refute it at one input. -/
def fnReadPlainDecimalMinusSetsOnlySignWrong : ChangeSpec := { name := "fnReadPlainDecimalMinusSetsOnlySign", fn := fun _ => fun
  | [d] => { results := [.lit (.bool false)], args := [d] }
  | _ => none }
def FnReadPlainDecimalMinusSetsOnlySignWrongFalsely : Prop := fnReadPlainDecimalMinusSetsOnlySignRow.holds Try.pinned (OpenSpec.ofChange fnReadPlainDecimalMinusSetsOnlySignWrong)

end Rows
end Go.Proofs.Qxb6601792a
