/-
  No cell of these rows narrows 'for every input' (looked for: loops, veiled, ifaces, maps, wideKeys, modest, calm, conditions, laid).
  DERIVED. THE GIVEN ROWS OF THIS SEAT. 10 by the template 'for every input the law returns true; each argument reads behind the call as it read before'; 0 by the template 'total and deterministic' (their statements: Qxb6001746aModsTotals.lean).
  GIVEN WITH THE SEED: the statements are not yours to turn. If you find one false, say at which input.
  Laid BY PROGRAM, IN A SANDBOX (cutbox-rows.mjs): the forced cells as the released guide's own fill.sh prints them over the translation a16f0e487b150214… (all of the seat's roots in one cut). By AI agents, Wed Nov 11 2026. No macro, syntax, notation, axiom, sorry.
-/
import Derived.Test.Qxb6001746aModsChecked
import GoSem.Claim
import GoSem.ClaimJoined
import GoSem.ClaimMapViews
import Derived.JoinedTies
import Derived.KernelRfl
namespace Go.Proofs.Qxb6001746aMods
/- THE CELL 'sum', in the pinned program and in every row, IS THE sha256 OF THE DUMP (.gsa) THAT Qxb6001746aModsProg.lean LOADS. Nothing in Lean hashes anything: it is a label: what it is worth is what the hold of that sum in a sandbox is worth. -/
noncomputable def Trym.pinned : Pinned := { name := "qxb6001746amods", sum := "a16f0e487b1502140f3cd520dea0cb369253e18d5c35b89cc9396445e1e36f6e", checked := Trym.checked }
namespace Rows
def none {H : Type} : Left H := { results := [], args := [] }

/-- 'zzlaws_internal_jinja_b1.FnWithoutCommentsMatchesRepeatedRemoval': WHATEVER THE INPUT: true; the input reads as it did. -/
def fnWithoutCommentsMatchesRepeatedRemovalSpec : ChangeSpec := { name := "fnWithoutCommentsMatchesRepeatedRemoval", fn := fun _ => fun
  | [d] => { results := [.lit (.bool true)], args := [d] }
  | _ => none }
def fnWithoutCommentsMatchesRepeatedRemovalRow : OpenClaim := { program := "qxb6001746amods", sum := "a16f0e487b1502140f3cd520dea0cb369253e18d5c35b89cc9396445e1e36f6e", func := "example.com/cradle/cradle/zzlaws_internal_jinja_b1.FnWithoutCommentsMatchesRepeatedRemoval", spec := "fnWithoutCommentsMatchesRepeatedRemoval", inPlace := ["internal/bytealg.IndexByteString", "internal/bytealg.IndexString", "internal/bytealg.IndexByte", "internal/bytealg.Index"], named := ["internal/bytealg.MaxLen"], make := .lifted ["publicsums"], apart := false }
def FnWithoutCommentsMatchesRepeatedRemovalSaid : Prop := fnWithoutCommentsMatchesRepeatedRemovalRow.holds Trym.pinned (OpenSpec.ofChange fnWithoutCommentsMatchesRepeatedRemovalSpec)

/-- ITS FALSE NEIGHBOUR: 'it returns false'. Refute it at one input. -/
def fnWithoutCommentsMatchesRepeatedRemovalWrong : ChangeSpec := { name := "fnWithoutCommentsMatchesRepeatedRemoval", fn := fun _ => fun
  | [d] => { results := [.lit (.bool false)], args := [d] }
  | _ => none }
def FnWithoutCommentsMatchesRepeatedRemovalWrongFalsely : Prop := fnWithoutCommentsMatchesRepeatedRemovalRow.holds Trym.pinned (OpenSpec.ofChange fnWithoutCommentsMatchesRepeatedRemovalWrong)

/-- 'zzlaws_internal_jinja_b1.FnWithoutCommentsIdempotent': WHATEVER THE INPUT: true; the input reads as it did. -/
def fnWithoutCommentsIdempotentSpec : ChangeSpec := { name := "fnWithoutCommentsIdempotent", fn := fun _ => fun
  | [d] => { results := [.lit (.bool true)], args := [d] }
  | _ => none }
def fnWithoutCommentsIdempotentRow : OpenClaim := { program := "qxb6001746amods", sum := "a16f0e487b1502140f3cd520dea0cb369253e18d5c35b89cc9396445e1e36f6e", func := "example.com/cradle/cradle/zzlaws_internal_jinja_b1.FnWithoutCommentsIdempotent", spec := "fnWithoutCommentsIdempotent", inPlace := ["internal/bytealg.IndexByteString", "internal/bytealg.IndexString", "internal/bytealg.IndexByte", "internal/bytealg.Index"], named := ["internal/bytealg.MaxLen"], make := .lifted ["publicsums"], apart := false }
def FnWithoutCommentsIdempotentSaid : Prop := fnWithoutCommentsIdempotentRow.holds Trym.pinned (OpenSpec.ofChange fnWithoutCommentsIdempotentSpec)

/-- ITS FALSE NEIGHBOUR: 'it returns false'. Refute it at one input. -/
def fnWithoutCommentsIdempotentWrong : ChangeSpec := { name := "fnWithoutCommentsIdempotent", fn := fun _ => fun
  | [d] => { results := [.lit (.bool false)], args := [d] }
  | _ => none }
def FnWithoutCommentsIdempotentWrongFalsely : Prop := fnWithoutCommentsIdempotentRow.holds Trym.pinned (OpenSpec.ofChange fnWithoutCommentsIdempotentWrong)

/-- 'zzlaws_internal_jinja_b1.FnWithoutCommentsLeavesNoComment': WHATEVER THE INPUT: true; the input reads as it did. -/
def fnWithoutCommentsLeavesNoCommentSpec : ChangeSpec := { name := "fnWithoutCommentsLeavesNoComment", fn := fun _ => fun
  | [d] => { results := [.lit (.bool true)], args := [d] }
  | _ => none }
def fnWithoutCommentsLeavesNoCommentRow : OpenClaim := { program := "qxb6001746amods", sum := "a16f0e487b1502140f3cd520dea0cb369253e18d5c35b89cc9396445e1e36f6e", func := "example.com/cradle/cradle/zzlaws_internal_jinja_b1.FnWithoutCommentsLeavesNoComment", spec := "fnWithoutCommentsLeavesNoComment", inPlace := ["internal/bytealg.IndexByteString", "internal/bytealg.IndexString", "internal/bytealg.IndexByte", "internal/bytealg.Index"], named := ["internal/bytealg.MaxLen"], make := .lifted ["publicsums"], apart := false }
def FnWithoutCommentsLeavesNoCommentSaid : Prop := fnWithoutCommentsLeavesNoCommentRow.holds Trym.pinned (OpenSpec.ofChange fnWithoutCommentsLeavesNoCommentSpec)

/-- ITS FALSE NEIGHBOUR: 'it returns false'. Refute it at one input. -/
def fnWithoutCommentsLeavesNoCommentWrong : ChangeSpec := { name := "fnWithoutCommentsLeavesNoComment", fn := fun _ => fun
  | [d] => { results := [.lit (.bool false)], args := [d] }
  | _ => none }
def FnWithoutCommentsLeavesNoCommentWrongFalsely : Prop := fnWithoutCommentsLeavesNoCommentRow.holds Trym.pinned (OpenSpec.ofChange fnWithoutCommentsLeavesNoCommentWrong)

/-- 'zzlaws_internal_jinja_b1.FnWithoutCommentsPlainTextAround': WHATEVER THE INPUT: true; the input reads as it did. -/
def fnWithoutCommentsPlainTextAroundSpec : ChangeSpec := { name := "fnWithoutCommentsPlainTextAround", fn := fun _ => fun
  | [d1, d2, d3] => { results := [.lit (.bool true)], args := [d1, d2, d3] }
  | _ => none }
def fnWithoutCommentsPlainTextAroundRow : OpenClaim := { program := "qxb6001746amods", sum := "a16f0e487b1502140f3cd520dea0cb369253e18d5c35b89cc9396445e1e36f6e", func := "example.com/cradle/cradle/zzlaws_internal_jinja_b1.FnWithoutCommentsPlainTextAround", spec := "fnWithoutCommentsPlainTextAround", inPlace := ["internal/bytealg.IndexByteString", "internal/bytealg.IndexString", "internal/bytealg.IndexByte", "internal/bytealg.Index"], named := ["internal/bytealg.MaxLen"], make := .lifted ["publicsums"], apart := false }
def FnWithoutCommentsPlainTextAroundSaid : Prop := fnWithoutCommentsPlainTextAroundRow.holds Trym.pinned (OpenSpec.ofChange fnWithoutCommentsPlainTextAroundSpec)

/-- ITS FALSE NEIGHBOUR: 'it returns false'. Refute it at one input. -/
def fnWithoutCommentsPlainTextAroundWrong : ChangeSpec := { name := "fnWithoutCommentsPlainTextAround", fn := fun _ => fun
  | [d1, d2, d3] => { results := [.lit (.bool false)], args := [d1, d2, d3] }
  | _ => none }
def FnWithoutCommentsPlainTextAroundWrongFalsely : Prop := fnWithoutCommentsPlainTextAroundRow.holds Trym.pinned (OpenSpec.ofChange fnWithoutCommentsPlainTextAroundWrong)

/-- 'zzlaws_internal_jinja_b1.FnSliceBoundsAgreesWithClampIndexForwards': WHATEVER THE INPUT: true; the input reads as it did. -/
def fnSliceBoundsAgreesWithClampIndexForwardsSpec : ChangeSpec := { name := "fnSliceBoundsAgreesWithClampIndexForwards", fn := fun _ => fun
  | [d1, d2, d3, d4, d5, d6] => { results := [.lit (.bool true)], args := [d1, d2, d3, d4, d5, d6] }
  | _ => none }
def fnSliceBoundsAgreesWithClampIndexForwardsRow : OpenClaim := { program := "qxb6001746amods", sum := "a16f0e487b1502140f3cd520dea0cb369253e18d5c35b89cc9396445e1e36f6e", func := "example.com/cradle/cradle/zzlaws_internal_jinja_b1.FnSliceBoundsAgreesWithClampIndexForwards", spec := "fnSliceBoundsAgreesWithClampIndexForwards", unfollowed := true, recurses := true, make := .lifted ["publicsums"], apart := false }
def FnSliceBoundsAgreesWithClampIndexForwardsSaid : Prop := fnSliceBoundsAgreesWithClampIndexForwardsRow.holds Trym.pinned (OpenSpec.ofChange fnSliceBoundsAgreesWithClampIndexForwardsSpec)

/-- ITS FALSE NEIGHBOUR: 'it returns false'. Refute it at one input. -/
def fnSliceBoundsAgreesWithClampIndexForwardsWrong : ChangeSpec := { name := "fnSliceBoundsAgreesWithClampIndexForwards", fn := fun _ => fun
  | [d1, d2, d3, d4, d5, d6] => { results := [.lit (.bool false)], args := [d1, d2, d3, d4, d5, d6] }
  | _ => none }
def FnSliceBoundsAgreesWithClampIndexForwardsWrongFalsely : Prop := fnSliceBoundsAgreesWithClampIndexForwardsRow.holds Trym.pinned (OpenSpec.ofChange fnSliceBoundsAgreesWithClampIndexForwardsWrong)

/-- 'zzlaws_internal_jinja_b1.FnSliceBoundsNegativeIndexIsFromEnd': WHATEVER THE INPUT: true; the input reads as it did. -/
def fnSliceBoundsNegativeIndexIsFromEndSpec : ChangeSpec := { name := "fnSliceBoundsNegativeIndexIsFromEnd", fn := fun _ => fun
  | [d1, d2, d3, d4, d5, d6] => { results := [.lit (.bool true)], args := [d1, d2, d3, d4, d5, d6] }
  | _ => none }
def fnSliceBoundsNegativeIndexIsFromEndRow : OpenClaim := { program := "qxb6001746amods", sum := "a16f0e487b1502140f3cd520dea0cb369253e18d5c35b89cc9396445e1e36f6e", func := "example.com/cradle/cradle/zzlaws_internal_jinja_b1.FnSliceBoundsNegativeIndexIsFromEnd", spec := "fnSliceBoundsNegativeIndexIsFromEnd", unfollowed := true, recurses := true, make := .lifted ["publicsums"], apart := false }
def FnSliceBoundsNegativeIndexIsFromEndSaid : Prop := fnSliceBoundsNegativeIndexIsFromEndRow.holds Trym.pinned (OpenSpec.ofChange fnSliceBoundsNegativeIndexIsFromEndSpec)

/-- ITS FALSE NEIGHBOUR: 'it returns false'. Refute it at one input. -/
def fnSliceBoundsNegativeIndexIsFromEndWrong : ChangeSpec := { name := "fnSliceBoundsNegativeIndexIsFromEnd", fn := fun _ => fun
  | [d1, d2, d3, d4, d5, d6] => { results := [.lit (.bool false)], args := [d1, d2, d3, d4, d5, d6] }
  | _ => none }
def FnSliceBoundsNegativeIndexIsFromEndWrongFalsely : Prop := fnSliceBoundsNegativeIndexIsFromEndRow.holds Trym.pinned (OpenSpec.ofChange fnSliceBoundsNegativeIndexIsFromEndWrong)

/-- 'zzlaws_internal_jinja_b1.FnSliceBoundsVisitsOnlyValidIndices': WHATEVER THE INPUT: true; the input reads as it did. -/
def fnSliceBoundsVisitsOnlyValidIndicesSpec : ChangeSpec := { name := "fnSliceBoundsVisitsOnlyValidIndices", fn := fun _ => fun
  | [d1, d2, d3, d4, d5, d6] => { results := [.lit (.bool true)], args := [d1, d2, d3, d4, d5, d6] }
  | _ => none }
def fnSliceBoundsVisitsOnlyValidIndicesRow : OpenClaim := { program := "qxb6001746amods", sum := "a16f0e487b1502140f3cd520dea0cb369253e18d5c35b89cc9396445e1e36f6e", func := "example.com/cradle/cradle/zzlaws_internal_jinja_b1.FnSliceBoundsVisitsOnlyValidIndices", spec := "fnSliceBoundsVisitsOnlyValidIndices", unfollowed := true, recurses := true, make := .lifted ["publicsums"], apart := false }
def FnSliceBoundsVisitsOnlyValidIndicesSaid : Prop := fnSliceBoundsVisitsOnlyValidIndicesRow.holds Trym.pinned (OpenSpec.ofChange fnSliceBoundsVisitsOnlyValidIndicesSpec)

/-- ITS FALSE NEIGHBOUR: 'it returns false'. Refute it at one input. -/
def fnSliceBoundsVisitsOnlyValidIndicesWrong : ChangeSpec := { name := "fnSliceBoundsVisitsOnlyValidIndices", fn := fun _ => fun
  | [d1, d2, d3, d4, d5, d6] => { results := [.lit (.bool false)], args := [d1, d2, d3, d4, d5, d6] }
  | _ => none }
def FnSliceBoundsVisitsOnlyValidIndicesWrongFalsely : Prop := fnSliceBoundsVisitsOnlyValidIndicesRow.holds Trym.pinned (OpenSpec.ofChange fnSliceBoundsVisitsOnlyValidIndicesWrong)

/-- 'zzlaws_internal_jinja_b1.FnLastPartsJoinIsInverse': WHATEVER THE INPUT: true; the input reads as it did. -/
def fnLastPartsJoinIsInverseSpec : ChangeSpec := { name := "fnLastPartsJoinIsInverse", fn := fun _ => fun
  | [d1, d2, d3] => { results := [.lit (.bool true)], args := [d1, d2, d3] }
  | _ => none }
def fnLastPartsJoinIsInverseRow : OpenClaim := { program := "qxb6001746amods", sum := "a16f0e487b1502140f3cd520dea0cb369253e18d5c35b89cc9396445e1e36f6e", func := "example.com/cradle/cradle/zzlaws_internal_jinja_b1.FnLastPartsJoinIsInverse", spec := "fnLastPartsJoinIsInverse", make := .lifted ["publicsums"], apart := false }
def FnLastPartsJoinIsInverseSaid : Prop := fnLastPartsJoinIsInverseRow.holds Trym.pinned (OpenSpec.ofChange fnLastPartsJoinIsInverseSpec)

/-- ITS FALSE NEIGHBOUR: 'it returns false'. Refute it at one input. -/
def fnLastPartsJoinIsInverseWrong : ChangeSpec := { name := "fnLastPartsJoinIsInverse", fn := fun _ => fun
  | [d1, d2, d3] => { results := [.lit (.bool false)], args := [d1, d2, d3] }
  | _ => none }
def FnLastPartsJoinIsInverseWrongFalsely : Prop := fnLastPartsJoinIsInverseRow.holds Trym.pinned (OpenSpec.ofChange fnLastPartsJoinIsInverseWrong)

/-- 'zzlaws_internal_jinja_b1.FnLastPartsTailsHoldNoSep': WHATEVER THE INPUT: true; the input reads as it did. -/
def fnLastPartsTailsHoldNoSepSpec : ChangeSpec := { name := "fnLastPartsTailsHoldNoSep", fn := fun _ => fun
  | [d1, d2, d3] => { results := [.lit (.bool true)], args := [d1, d2, d3] }
  | _ => none }
def fnLastPartsTailsHoldNoSepRow : OpenClaim := { program := "qxb6001746amods", sum := "a16f0e487b1502140f3cd520dea0cb369253e18d5c35b89cc9396445e1e36f6e", func := "example.com/cradle/cradle/zzlaws_internal_jinja_b1.FnLastPartsTailsHoldNoSep", spec := "fnLastPartsTailsHoldNoSep", make := .lifted ["publicsums"], apart := false }
def FnLastPartsTailsHoldNoSepSaid : Prop := fnLastPartsTailsHoldNoSepRow.holds Trym.pinned (OpenSpec.ofChange fnLastPartsTailsHoldNoSepSpec)

/-- ITS FALSE NEIGHBOUR: 'it returns false'. Refute it at one input. -/
def fnLastPartsTailsHoldNoSepWrong : ChangeSpec := { name := "fnLastPartsTailsHoldNoSep", fn := fun _ => fun
  | [d1, d2, d3] => { results := [.lit (.bool false)], args := [d1, d2, d3] }
  | _ => none }
def FnLastPartsTailsHoldNoSepWrongFalsely : Prop := fnLastPartsTailsHoldNoSepRow.holds Trym.pinned (OpenSpec.ofChange fnLastPartsTailsHoldNoSepWrong)

/-- 'zzlaws_internal_jinja_b1.FnLastPartsOneMoreSplitRefinesFirst': WHATEVER THE INPUT: true; the input reads as it did. -/
def fnLastPartsOneMoreSplitRefinesFirstSpec : ChangeSpec := { name := "fnLastPartsOneMoreSplitRefinesFirst", fn := fun _ => fun
  | [d1, d2, d3] => { results := [.lit (.bool true)], args := [d1, d2, d3] }
  | _ => none }
def fnLastPartsOneMoreSplitRefinesFirstRow : OpenClaim := { program := "qxb6001746amods", sum := "a16f0e487b1502140f3cd520dea0cb369253e18d5c35b89cc9396445e1e36f6e", func := "example.com/cradle/cradle/zzlaws_internal_jinja_b1.FnLastPartsOneMoreSplitRefinesFirst", spec := "fnLastPartsOneMoreSplitRefinesFirst", make := .lifted ["publicsums"], apart := false }
def FnLastPartsOneMoreSplitRefinesFirstSaid : Prop := fnLastPartsOneMoreSplitRefinesFirstRow.holds Trym.pinned (OpenSpec.ofChange fnLastPartsOneMoreSplitRefinesFirstSpec)

/-- ITS FALSE NEIGHBOUR: 'it returns false'. Refute it at one input. -/
def fnLastPartsOneMoreSplitRefinesFirstWrong : ChangeSpec := { name := "fnLastPartsOneMoreSplitRefinesFirst", fn := fun _ => fun
  | [d1, d2, d3] => { results := [.lit (.bool false)], args := [d1, d2, d3] }
  | _ => none }
def FnLastPartsOneMoreSplitRefinesFirstWrongFalsely : Prop := fnLastPartsOneMoreSplitRefinesFirstRow.holds Trym.pinned (OpenSpec.ofChange fnLastPartsOneMoreSplitRefinesFirstWrong)

end Rows
end Go.Proofs.Qxb6001746aMods
