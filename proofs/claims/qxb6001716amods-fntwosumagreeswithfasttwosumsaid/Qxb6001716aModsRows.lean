/-
  No cell of these rows narrows 'for every input' (looked for: loops, veiled, ifaces, maps, wideKeys, modest, calm, conditions, laid).
  DERIVED. THE GIVEN ROWS OF THIS SEAT. 6 by the template 'for every input the law returns true; each argument reads behind the call as it read before'; 0 by the template 'total and deterministic' (their statements: Qxb6001716aModsTotals.lean).
  GIVEN WITH THE SEED: the statements are not yours to turn. If you find one false, say at which input.
  Laid BY PROGRAM, IN A SANDBOX (cutbox-rows.mjs): the forced cells as the released guide's own fill.sh prints them over the translation 38ff999d172f6fbd… (all of the seat's roots in one cut). By AI agents, Wed Nov 11 2026. No macro, syntax, notation, axiom, sorry.
-/
import Derived.Test.Qxb6001716aModsChecked
import GoSem.Claim
import GoSem.ClaimJoined
import GoSem.ClaimMapViews
import Derived.JoinedTies
import Derived.KernelRfl
namespace Go.Proofs.Qxb6001716aMods
/- THE CELL 'sum', in the pinned program and in every row, IS THE sha256 OF THE DUMP (.gsa) THAT Qxb6001716aModsProg.lean LOADS. Nothing in Lean hashes anything: it is a label: what it is worth is what the hold of that sum in a sandbox is worth. -/
noncomputable def Trym.pinned : Pinned := { name := "qxb6001716amods", sum := "38ff999d172f6fbdedf7146fa9a0fa7fc39ea2575194726cd60d143e600383e1", checked := Trym.checked }
namespace Rows
def none {H : Type} : Left H := { results := [], args := [] }

/-- 'zzlaws_internal_jinja_b1.FnClampIndexWithinListAndIdempotent': WHATEVER THE INPUT: true; the input reads as it did. -/
def fnClampIndexWithinListAndIdempotentSpec : ChangeSpec := { name := "fnClampIndexWithinListAndIdempotent", fn := fun _ => fun
  | [d1, d2] => { results := [.lit (.bool true)], args := [d1, d2] }
  | _ => none }
def fnClampIndexWithinListAndIdempotentRow : OpenClaim := { program := "qxb6001716amods", sum := "38ff999d172f6fbdedf7146fa9a0fa7fc39ea2575194726cd60d143e600383e1", func := "example.com/cradle/cradle/zzlaws_internal_jinja_b1.FnClampIndexWithinListAndIdempotent", spec := "fnClampIndexWithinListAndIdempotent", make := .lifted ["publicsums"], apart := false }
def FnClampIndexWithinListAndIdempotentSaid : Prop := fnClampIndexWithinListAndIdempotentRow.holds Trym.pinned (OpenSpec.ofChange fnClampIndexWithinListAndIdempotentSpec)

/-- ITS FALSE NEIGHBOUR: 'it returns false'. Refute it at one input. -/
def fnClampIndexWithinListAndIdempotentWrong : ChangeSpec := { name := "fnClampIndexWithinListAndIdempotent", fn := fun _ => fun
  | [d1, d2] => { results := [.lit (.bool false)], args := [d1, d2] }
  | _ => none }
def FnClampIndexWithinListAndIdempotentWrongFalsely : Prop := fnClampIndexWithinListAndIdempotentRow.holds Trym.pinned (OpenSpec.ofChange fnClampIndexWithinListAndIdempotentWrong)

/-- 'zzlaws_internal_jinja_b1.FnClampIndexNamesItemsFromEitherEnd': WHATEVER THE INPUT: true; the input reads as it did. -/
def fnClampIndexNamesItemsFromEitherEndSpec : ChangeSpec := { name := "fnClampIndexNamesItemsFromEitherEnd", fn := fun _ => fun
  | [d1, d2] => { results := [.lit (.bool true)], args := [d1, d2] }
  | _ => none }
def fnClampIndexNamesItemsFromEitherEndRow : OpenClaim := { program := "qxb6001716amods", sum := "38ff999d172f6fbdedf7146fa9a0fa7fc39ea2575194726cd60d143e600383e1", func := "example.com/cradle/cradle/zzlaws_internal_jinja_b1.FnClampIndexNamesItemsFromEitherEnd", spec := "fnClampIndexNamesItemsFromEitherEnd", make := .lifted ["publicsums"], apart := false }
def FnClampIndexNamesItemsFromEitherEndSaid : Prop := fnClampIndexNamesItemsFromEitherEndRow.holds Trym.pinned (OpenSpec.ofChange fnClampIndexNamesItemsFromEitherEndSpec)

/-- ITS FALSE NEIGHBOUR: 'it returns false'. Refute it at one input. -/
def fnClampIndexNamesItemsFromEitherEndWrong : ChangeSpec := { name := "fnClampIndexNamesItemsFromEitherEnd", fn := fun _ => fun
  | [d1, d2] => { results := [.lit (.bool false)], args := [d1, d2] }
  | _ => none }
def FnClampIndexNamesItemsFromEitherEndWrongFalsely : Prop := fnClampIndexNamesItemsFromEitherEndRow.holds Trym.pinned (OpenSpec.ofChange fnClampIndexNamesItemsFromEitherEndWrong)

/-- 'zzlaws_internal_jinja_b1.FnClampIndexMonotoneOnEachSide': WHATEVER THE INPUT: true; the input reads as it did. -/
def fnClampIndexMonotoneOnEachSideSpec : ChangeSpec := { name := "fnClampIndexMonotoneOnEachSide", fn := fun _ => fun
  | [d1, d2, d3] => { results := [.lit (.bool true)], args := [d1, d2, d3] }
  | _ => none }
def fnClampIndexMonotoneOnEachSideRow : OpenClaim := { program := "qxb6001716amods", sum := "38ff999d172f6fbdedf7146fa9a0fa7fc39ea2575194726cd60d143e600383e1", func := "example.com/cradle/cradle/zzlaws_internal_jinja_b1.FnClampIndexMonotoneOnEachSide", spec := "fnClampIndexMonotoneOnEachSide", make := .lifted ["publicsums"], apart := false }
def FnClampIndexMonotoneOnEachSideSaid : Prop := fnClampIndexMonotoneOnEachSideRow.holds Trym.pinned (OpenSpec.ofChange fnClampIndexMonotoneOnEachSideSpec)

/-- ITS FALSE NEIGHBOUR: 'it returns false'. Refute it at one input. -/
def fnClampIndexMonotoneOnEachSideWrong : ChangeSpec := { name := "fnClampIndexMonotoneOnEachSide", fn := fun _ => fun
  | [d1, d2, d3] => { results := [.lit (.bool false)], args := [d1, d2, d3] }
  | _ => none }
def FnClampIndexMonotoneOnEachSideWrongFalsely : Prop := fnClampIndexMonotoneOnEachSideRow.holds Trym.pinned (OpenSpec.ofChange fnClampIndexMonotoneOnEachSideWrong)

/-- 'zzlaws_internal_jinja_b1.FnTwoSumIsRenormalized': WHATEVER THE INPUT: true; the input reads as it did. -/
def fnTwoSumIsRenormalizedSpec : ChangeSpec := { name := "fnTwoSumIsRenormalized", fn := fun _ => fun
  | [d1, d2] => { results := [.lit (.bool true)], args := [d1, d2] }
  | _ => none }
def fnTwoSumIsRenormalizedRow : OpenClaim := { program := "qxb6001716amods", sum := "38ff999d172f6fbdedf7146fa9a0fa7fc39ea2575194726cd60d143e600383e1", func := "example.com/cradle/cradle/zzlaws_internal_jinja_b1.FnTwoSumIsRenormalized", spec := "fnTwoSumIsRenormalized", make := .lifted ["publicsums"], apart := false }
def FnTwoSumIsRenormalizedSaid : Prop := fnTwoSumIsRenormalizedRow.holds Trym.pinned (OpenSpec.ofChange fnTwoSumIsRenormalizedSpec)

/-- ITS FALSE NEIGHBOUR: 'it returns false'. Refute it at one input. -/
def fnTwoSumIsRenormalizedWrong : ChangeSpec := { name := "fnTwoSumIsRenormalized", fn := fun _ => fun
  | [d1, d2] => { results := [.lit (.bool false)], args := [d1, d2] }
  | _ => none }
def FnTwoSumIsRenormalizedWrongFalsely : Prop := fnTwoSumIsRenormalizedRow.holds Trym.pinned (OpenSpec.ofChange fnTwoSumIsRenormalizedWrong)

/-- 'zzlaws_internal_jinja_b1.FnTwoSumAgreesWithFastTwoSum': WHATEVER THE INPUT: true; the input reads as it did. -/
def fnTwoSumAgreesWithFastTwoSumSpec : ChangeSpec := { name := "fnTwoSumAgreesWithFastTwoSum", fn := fun _ => fun
  | [d1, d2] => { results := [.lit (.bool true)], args := [d1, d2] }
  | _ => none }
def fnTwoSumAgreesWithFastTwoSumRow : OpenClaim := { program := "qxb6001716amods", sum := "38ff999d172f6fbdedf7146fa9a0fa7fc39ea2575194726cd60d143e600383e1", func := "example.com/cradle/cradle/zzlaws_internal_jinja_b1.FnTwoSumAgreesWithFastTwoSum", spec := "fnTwoSumAgreesWithFastTwoSum", make := .lifted ["publicsums"], apart := false }
def FnTwoSumAgreesWithFastTwoSumSaid : Prop := fnTwoSumAgreesWithFastTwoSumRow.holds Trym.pinned (OpenSpec.ofChange fnTwoSumAgreesWithFastTwoSumSpec)

/-- ITS FALSE NEIGHBOUR: 'it returns false'. Refute it at one input. -/
def fnTwoSumAgreesWithFastTwoSumWrong : ChangeSpec := { name := "fnTwoSumAgreesWithFastTwoSum", fn := fun _ => fun
  | [d1, d2] => { results := [.lit (.bool false)], args := [d1, d2] }
  | _ => none }
def FnTwoSumAgreesWithFastTwoSumWrongFalsely : Prop := fnTwoSumAgreesWithFastTwoSumRow.holds Trym.pinned (OpenSpec.ofChange fnTwoSumAgreesWithFastTwoSumWrong)

/-- 'zzlaws_internal_jinja_b1.FnTwoSumSymmetricAndOdd': WHATEVER THE INPUT: true; the input reads as it did. -/
def fnTwoSumSymmetricAndOddSpec : ChangeSpec := { name := "fnTwoSumSymmetricAndOdd", fn := fun _ => fun
  | [d1, d2] => { results := [.lit (.bool true)], args := [d1, d2] }
  | _ => none }
def fnTwoSumSymmetricAndOddRow : OpenClaim := { program := "qxb6001716amods", sum := "38ff999d172f6fbdedf7146fa9a0fa7fc39ea2575194726cd60d143e600383e1", func := "example.com/cradle/cradle/zzlaws_internal_jinja_b1.FnTwoSumSymmetricAndOdd", spec := "fnTwoSumSymmetricAndOdd", make := .lifted ["publicsums"], apart := false }
def FnTwoSumSymmetricAndOddSaid : Prop := fnTwoSumSymmetricAndOddRow.holds Trym.pinned (OpenSpec.ofChange fnTwoSumSymmetricAndOddSpec)

/-- ITS FALSE NEIGHBOUR: 'it returns false'. Refute it at one input. -/
def fnTwoSumSymmetricAndOddWrong : ChangeSpec := { name := "fnTwoSumSymmetricAndOdd", fn := fun _ => fun
  | [d1, d2] => { results := [.lit (.bool false)], args := [d1, d2] }
  | _ => none }
def FnTwoSumSymmetricAndOddWrongFalsely : Prop := fnTwoSumSymmetricAndOddRow.holds Trym.pinned (OpenSpec.ofChange fnTwoSumSymmetricAndOddWrong)

end Rows
end Go.Proofs.Qxb6001716aMods
