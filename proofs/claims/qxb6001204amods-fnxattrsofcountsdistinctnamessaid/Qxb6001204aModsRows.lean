/-
  No cell of these rows narrows 'for every input' (looked for: loops, veiled, ifaces, maps, wideKeys, modest, calm, conditions, laid).
  DERIVED. THE GIVEN ROWS OF THIS SEAT. 3 by the template 'for every input the law returns true; each argument reads behind the call as it read before'; 0 by the template 'total and deterministic' (their statements: Qxb6001204aModsTotals.lean).
  GIVEN WITH THE SEED: the statements are not yours to turn. If you find one false, say at which input.
  Laid BY PROGRAM, IN A SANDBOX (cutbox-rows.mjs): the forced cells as the released guide's own fill.sh prints them over the translation 4889b56c6668d6ec… (all of the seat's roots in one cut). By AI agents, Wed Nov 11 2026. No macro, syntax, notation, axiom, sorry.
-/
import Derived.Test.Qxb6001204aModsChecked
import GoSem.Claim
import GoSem.ClaimJoined
import GoSem.ClaimMapViews
import Derived.JoinedTies
import Derived.KernelRfl
namespace Go.Proofs.Qxb6001204aMods
/- THE CELL 'sum', in the pinned program and in every row, IS THE sha256 OF THE DUMP (.gsa) THAT Qxb6001204aModsProg.lean LOADS. Nothing in Lean hashes anything: it is a label: what it is worth is what the hold of that sum in a sandbox is worth. -/
noncomputable def Trym.pinned : Pinned := { name := "qxb6001204amods", sum := "4889b56c6668d6ecfba625c0287960668d8d2989bdd996309e1106cb03e45cdf", checked := Trym.checked }
namespace Rows
def none {H : Type} : Left H := { results := [], args := [] }

/-- 'zzlaws_internal_archive_b1.FnXattrsOfAnswersEachNameByItsRecord': WHATEVER THE INPUT: true; the input reads as it did. -/
def fnXattrsOfAnswersEachNameByItsRecordSpec : ChangeSpec := { name := "fnXattrsOfAnswersEachNameByItsRecord", fn := fun _ => fun
  | [d1, d2, d3] => { results := [.lit (.bool true)], args := [d1, d2, d3] }
  | _ => none }
def fnXattrsOfAnswersEachNameByItsRecordRow : OpenClaim := { program := "qxb6001204amods", sum := "4889b56c6668d6ecfba625c0287960668d8d2989bdd996309e1106cb03e45cdf", func := "example.com/holdfast/holdfast/zzlaws_internal_archive_b1.FnXattrsOfAnswersEachNameByItsRecord", spec := "fnXattrsOfAnswersEachNameByItsRecord", make := .lifted ["publicsums"], apart := false }
def FnXattrsOfAnswersEachNameByItsRecordSaid : Prop := fnXattrsOfAnswersEachNameByItsRecordRow.holds Trym.pinned (OpenSpec.ofChange fnXattrsOfAnswersEachNameByItsRecordSpec)

/-- ITS FALSE NEIGHBOUR: 'it returns false'. Refute it at one input. -/
def fnXattrsOfAnswersEachNameByItsRecordWrong : ChangeSpec := { name := "fnXattrsOfAnswersEachNameByItsRecord", fn := fun _ => fun
  | [d1, d2, d3] => { results := [.lit (.bool false)], args := [d1, d2, d3] }
  | _ => none }
def FnXattrsOfAnswersEachNameByItsRecordWrongFalsely : Prop := fnXattrsOfAnswersEachNameByItsRecordRow.holds Trym.pinned (OpenSpec.ofChange fnXattrsOfAnswersEachNameByItsRecordWrong)

/-- 'zzlaws_internal_archive_b1.FnXattrsOfCountsDistinctNames': WHATEVER THE INPUT: true; the input reads as it did. -/
def fnXattrsOfCountsDistinctNamesSpec : ChangeSpec := { name := "fnXattrsOfCountsDistinctNames", fn := fun _ => fun
  | [d1, d2] => { results := [.lit (.bool true)], args := [d1, d2] }
  | _ => none }
def fnXattrsOfCountsDistinctNamesRow : OpenClaim := { program := "qxb6001204amods", sum := "4889b56c6668d6ecfba625c0287960668d8d2989bdd996309e1106cb03e45cdf", func := "example.com/holdfast/holdfast/zzlaws_internal_archive_b1.FnXattrsOfCountsDistinctNames", spec := "fnXattrsOfCountsDistinctNames", make := .lifted ["publicsums"], apart := false }
def FnXattrsOfCountsDistinctNamesSaid : Prop := fnXattrsOfCountsDistinctNamesRow.holds Trym.pinned (OpenSpec.ofChange fnXattrsOfCountsDistinctNamesSpec)

/-- ITS FALSE NEIGHBOUR: 'it returns false'. Refute it at one input. -/
def fnXattrsOfCountsDistinctNamesWrong : ChangeSpec := { name := "fnXattrsOfCountsDistinctNames", fn := fun _ => fun
  | [d1, d2] => { results := [.lit (.bool false)], args := [d1, d2] }
  | _ => none }
def FnXattrsOfCountsDistinctNamesWrongFalsely : Prop := fnXattrsOfCountsDistinctNamesRow.holds Trym.pinned (OpenSpec.ofChange fnXattrsOfCountsDistinctNamesWrong)

/-- 'zzlaws_internal_archive_b1.FnXattrsOfInvertsTheirRecords': WHATEVER THE INPUT: true; the input reads as it did. -/
def fnXattrsOfInvertsTheirRecordsSpec : ChangeSpec := { name := "fnXattrsOfInvertsTheirRecords", fn := fun _ => fun
  | [d1, d2, d3] => { results := [.lit (.bool true)], args := [d1, d2, d3] }
  | _ => none }
def fnXattrsOfInvertsTheirRecordsRow : OpenClaim := { program := "qxb6001204amods", sum := "4889b56c6668d6ecfba625c0287960668d8d2989bdd996309e1106cb03e45cdf", func := "example.com/holdfast/holdfast/zzlaws_internal_archive_b1.FnXattrsOfInvertsTheirRecords", spec := "fnXattrsOfInvertsTheirRecords", make := .lifted ["publicsums"], apart := false }
def FnXattrsOfInvertsTheirRecordsSaid : Prop := fnXattrsOfInvertsTheirRecordsRow.holds Trym.pinned (OpenSpec.ofChange fnXattrsOfInvertsTheirRecordsSpec)

/-- ITS FALSE NEIGHBOUR: 'it returns false'. Refute it at one input. -/
def fnXattrsOfInvertsTheirRecordsWrong : ChangeSpec := { name := "fnXattrsOfInvertsTheirRecords", fn := fun _ => fun
  | [d1, d2, d3] => { results := [.lit (.bool false)], args := [d1, d2, d3] }
  | _ => none }
def FnXattrsOfInvertsTheirRecordsWrongFalsely : Prop := fnXattrsOfInvertsTheirRecordsRow.holds Trym.pinned (OpenSpec.ofChange fnXattrsOfInvertsTheirRecordsWrong)

end Rows
end Go.Proofs.Qxb6001204aMods
