/- strings.CutPrefix (16) and xattrsOf (15, 10) of seat b6001204aM. -/
import Derived.Test.Qxb6001204aModsWalkC
import Derived.Lib.Strings
namespace Go.Proofs.Qxb6001204aMods
open Go.RowKit Go.WideMaps Go.Maps
set_option linter.unusedVariables false

set_option maxHeartbeats 1000000 in
theorem cut_any (s p : ByteArray) (w : World) :
    Calls Trym.prog 16 #[.string s, .string p] w fun e w' => e = .returned (.tuple #[.string ⟨(Lib.trimPrefix s.data.toList p.data.toList).toArray⟩, .bool (Lib.hasPrefix s.data.toList p.data.toList)]) ∧ w = w' := by
  go_enter Trym.func16, Trym.ntmps16
  go_wp2
  · have h2 : (!((s.extract 0 p.size).toList == p.toList)) = true := by assumption
    have h3 : (decide (p.size ≤ s.size) && ((s.extract 0 p.size).toList == p.toList)) = false := by
      have : ((s.extract 0 p.size).toList == p.toList) = false := by simpa using h2
      rw [this]
      simp
    go_ret2
    refine ⟨?_, rfl⟩
    rw [Lib.trimPrefix_miss s p h3, ← Lib.hasPrefix_raw, h3]
    rfl
  · have h1 : p.size ≤ s.size := by assumption
    have h2 : (!((s.extract 0 p.size).toList == p.toList)) = false := by assumption
    have h2' : ((s.extract 0 p.size).toList == p.toList) = true := by simpa using h2
    go_ret2
    refine ⟨?_, rfl⟩
    rw [Lib.trimPrefix_hit s p h1 h2', ← Lib.hasPrefix_raw, h2', decide_eq_true h1]
    rfl
  · have h1 : ¬ p.size ≤ s.size := by assumption
    have h3 : (decide (p.size ≤ s.size) && ((s.extract 0 p.size).toList == p.toList)) = false := by simp [h1]
    go_ret2
    refine ⟨?_, rfl⟩
    rw [Lib.trimPrefix_miss s p h3, ← Lib.hasPrefix_raw, h3]
    rfl

/-- the lead is there: the rest, and true -/
theorem cut_hit (t s : ByteArray) (w : World) (h : s.data.toList = PFX ++ t.data.toList) :
    Calls Trym.prog 16 #[.string s, .string ⟨#[83, 67, 72, 73, 76, 89, 46, 120, 97, 116, 116, 114, 46]⟩] w fun e w' => e = .returned (.tuple #[.string t, .bool true]) ∧ w = w' := by
  refine (cut_any s _ w).mono ?_
  rintro e w' ⟨rfl, rfl⟩
  refine ⟨?_, rfl⟩
  have h1 : Lib.hasPrefix s.data.toList PFX = true := by
    rw [h]; exact List.isPrefixOf_iff_prefix.2 (List.prefix_append _ _)
  have h2 : Lib.trimPrefix s.data.toList PFX = t.data.toList := by
    unfold Lib.trimPrefix
    rw [if_pos h1, h]; rfl
  show Ending.returned (.tuple #[.string ⟨(Lib.trimPrefix s.data.toList PFX).toArray⟩, .bool (Lib.hasPrefix s.data.toList PFX)]) = _
  rw [h1, h2, Lib.mk_data]

/-- it is not: the string, and false -/
theorem cut_miss (s : ByteArray) (w : World) (h : PFX.isPrefixOf s.data.toList = false) :
    Calls Trym.prog 16 #[.string s, .string ⟨#[83, 67, 72, 73, 76, 89, 46, 120, 97, 116, 116, 114, 46]⟩] w fun e w' => e = .returned (.tuple #[.string s, .bool false]) ∧ w = w' := by
  refine (cut_any s _ w).mono ?_
  rintro e w' ⟨rfl, rfl⟩
  refine ⟨?_, rfl⟩
  have h1 : Lib.hasPrefix s.data.toList PFX = false := h
  have h2 : Lib.trimPrefix s.data.toList PFX = s.data.toList := by
    unfold Lib.trimPrefix
    rw [h1]; rfl
  show Ending.returned (.tuple #[.string ⟨(Lib.trimPrefix s.data.toList PFX).toArray⟩, .bool (Lib.hasPrefix s.data.toList PFX)]) = _
  rw [h1, h2, Lib.mk_data]

end Go.Proofs.Qxb6001204aMods
