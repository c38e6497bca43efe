/-
  No cell of these rows narrows 'for every input' (looked for: loops, veiled, ifaces, maps, wideKeys, modest, calm, conditions, laid).
  DERIVED. THE GIVEN ROWS OF THIS SEAT. 4 by the template 'for every input the law returns true; each argument reads behind the call as it read before'; 0 by the template 'total and deterministic' (their statements: Qxb6003310aTotals.lean).
  GIVEN WITH THE SEED: the statements are not yours to turn. If you find one false, say at which input.
  Laid BY PROGRAM, IN A SANDBOX (cutbox-rows.mjs): the forced cells as the released guide's own fill.sh prints them over the translation 630e6283cc386aa6… (all of the seat's roots in one cut). By AI agents, Wed Nov 11 2026. No macro, syntax, notation, axiom, sorry.
-/
import Derived.Test.Qxb6003310aChecked
import GoSem.Claim
import GoSem.ClaimJoined
import GoSem.ClaimMapViews
import Derived.JoinedTies
import Derived.KernelRfl
namespace Go.Proofs.Qxb6003310a
/- THE CELL 'sum', in the pinned program and in every row, IS THE sha256 OF THE DUMP (.gsa) THAT Qxb6003310aProg.lean LOADS. Nothing in Lean hashes anything: it is a label: what it is worth is what the hold of that sum in a sandbox is worth. -/
noncomputable def Try.pinned : Pinned := { name := "qxb6003310a", sum := "630e6283cc386aa645f039b8036dcc0fff8c4ee1ede206f10cf1e9d77af11546", checked := Try.checked }
namespace Rows
def none {H : Type} : Left H := { results := [], args := [] }

/-- 'zzlaws_internal_capture_g1.FnMergeSpansCoverExactly': WHATEVER THE INPUT: true; the input reads as it did. -/
def fnMergeSpansCoverExactlySpec : ChangeSpec := { name := "fnMergeSpansCoverExactly", fn := fun _ => fun
  | [d1, d2] => { results := [.lit (.bool true)], args := [d1, d2] }
  | _ => none }
def fnMergeSpansCoverExactlyRow : OpenClaim := { program := "qxb6003310a", sum := "630e6283cc386aa645f039b8036dcc0fff8c4ee1ede206f10cf1e9d77af11546", func := "example.com/tunnelwright/tunnelwright/zzlaws_internal_capture_g1.FnMergeSpansCoverExactly", spec := "fnMergeSpansCoverExactly", unfollowed := true, recurses := true, apart := false }
def FnMergeSpansCoverExactlySaid : Prop := fnMergeSpansCoverExactlyRow.holds Try.pinned (OpenSpec.ofChange fnMergeSpansCoverExactlySpec)

/-- ITS FALSE NEIGHBOUR: 'it returns false'. Refute it at one input. -/
def fnMergeSpansCoverExactlyWrong : ChangeSpec := { name := "fnMergeSpansCoverExactly", fn := fun _ => fun
  | [d1, d2] => { results := [.lit (.bool false)], args := [d1, d2] }
  | _ => none }
def FnMergeSpansCoverExactlyWrongFalsely : Prop := fnMergeSpansCoverExactlyRow.holds Try.pinned (OpenSpec.ofChange fnMergeSpansCoverExactlyWrong)

/-- 'zzlaws_internal_capture_g1.FnMergeSpansIdempotent': WHATEVER THE INPUT: true; the input reads as it did. -/
def fnMergeSpansIdempotentSpec : ChangeSpec := { name := "fnMergeSpansIdempotent", fn := fun _ => fun
  | [d1, d2] => { results := [.lit (.bool true)], args := [d1, d2] }
  | _ => none }
def fnMergeSpansIdempotentRow : OpenClaim := { program := "qxb6003310a", sum := "630e6283cc386aa645f039b8036dcc0fff8c4ee1ede206f10cf1e9d77af11546", func := "example.com/tunnelwright/tunnelwright/zzlaws_internal_capture_g1.FnMergeSpansIdempotent", spec := "fnMergeSpansIdempotent", unfollowed := true, recurses := true, apart := false }
def FnMergeSpansIdempotentSaid : Prop := fnMergeSpansIdempotentRow.holds Try.pinned (OpenSpec.ofChange fnMergeSpansIdempotentSpec)

/-- ITS FALSE NEIGHBOUR: 'it returns false'. Refute it at one input. -/
def fnMergeSpansIdempotentWrong : ChangeSpec := { name := "fnMergeSpansIdempotent", fn := fun _ => fun
  | [d1, d2] => { results := [.lit (.bool false)], args := [d1, d2] }
  | _ => none }
def FnMergeSpansIdempotentWrongFalsely : Prop := fnMergeSpansIdempotentRow.holds Try.pinned (OpenSpec.ofChange fnMergeSpansIdempotentWrong)

/-- 'zzlaws_internal_capture_g1.FnMergeSpansOrderFree': WHATEVER THE INPUT: true; the input reads as it did. -/
def fnMergeSpansOrderFreeSpec : ChangeSpec := { name := "fnMergeSpansOrderFree", fn := fun _ => fun
  | [d1, d2, d3] => { results := [.lit (.bool true)], args := [d1, d2, d3] }
  | _ => none }
def fnMergeSpansOrderFreeRow : OpenClaim := { program := "qxb6003310a", sum := "630e6283cc386aa645f039b8036dcc0fff8c4ee1ede206f10cf1e9d77af11546", func := "example.com/tunnelwright/tunnelwright/zzlaws_internal_capture_g1.FnMergeSpansOrderFree", spec := "fnMergeSpansOrderFree", unfollowed := true, recurses := true, apart := false }
def FnMergeSpansOrderFreeSaid : Prop := fnMergeSpansOrderFreeRow.holds Try.pinned (OpenSpec.ofChange fnMergeSpansOrderFreeSpec)

/-- ITS FALSE NEIGHBOUR: 'it returns false'. Refute it at one input. -/
def fnMergeSpansOrderFreeWrong : ChangeSpec := { name := "fnMergeSpansOrderFree", fn := fun _ => fun
  | [d1, d2, d3] => { results := [.lit (.bool false)], args := [d1, d2, d3] }
  | _ => none }
def FnMergeSpansOrderFreeWrongFalsely : Prop := fnMergeSpansOrderFreeRow.holds Try.pinned (OpenSpec.ofChange fnMergeSpansOrderFreeWrong)

/-- 'zzlaws_internal_capture_g1.FnMergeSpansFoldAgrees': WHATEVER THE INPUT: true; the input reads as it did. -/
def fnMergeSpansFoldAgreesSpec : ChangeSpec := { name := "fnMergeSpansFoldAgrees", fn := fun _ => fun
  | [d1, d2] => { results := [.lit (.bool true)], args := [d1, d2] }
  | _ => none }
def fnMergeSpansFoldAgreesRow : OpenClaim := { program := "qxb6003310a", sum := "630e6283cc386aa645f039b8036dcc0fff8c4ee1ede206f10cf1e9d77af11546", func := "example.com/tunnelwright/tunnelwright/zzlaws_internal_capture_g1.FnMergeSpansFoldAgrees", spec := "fnMergeSpansFoldAgrees", unfollowed := true, recurses := true, apart := false }
def FnMergeSpansFoldAgreesSaid : Prop := fnMergeSpansFoldAgreesRow.holds Try.pinned (OpenSpec.ofChange fnMergeSpansFoldAgreesSpec)

/-- ITS FALSE NEIGHBOUR: 'it returns false'. Refute it at one input. -/
def fnMergeSpansFoldAgreesWrong : ChangeSpec := { name := "fnMergeSpansFoldAgrees", fn := fun _ => fun
  | [d1, d2] => { results := [.lit (.bool false)], args := [d1, d2] }
  | _ => none }
def FnMergeSpansFoldAgreesWrongFalsely : Prop := fnMergeSpansFoldAgreesRow.holds Try.pinned (OpenSpec.ofChange fnMergeSpansFoldAgreesWrong)

end Rows
end Go.Proofs.Qxb6003310a
