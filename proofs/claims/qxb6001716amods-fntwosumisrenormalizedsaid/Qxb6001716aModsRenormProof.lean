/- 'Rows.FnTwoSumIsRenormalizedSaid', proved: the row's step (the guide's template at this function) and the statement. -/
import Derived.Test.Qxb6001716aModsHead
import Derived.Test.Qxb6001716aModsRows
import Derived.Test.Qxb6001716aModsFloatLaws
import Derived.WalkKit
import Derived.ProofKit
import Derived.OpenShut
import Derived.ChangeOld
import Derived.Below
import Derived.Laws.Cover2
namespace Go.Proofs.Qxb6001716aMods.renormRow
open Go.ChangeShapes Go.WideShapes Go.ChangeAt Go.RowKit
set_option linter.unusedVariables false

theorem own : ownKnob Trym.prog.godebug = none := by kernel_rfl

set_option maxRecDepth 100000 in
theorem lifted (os : Os) (started : os.Started) (H : Type) (enc : TypeId × Value → H) :
    ReturnsInHanded {} Trym.checked os 6 .any (Rows.fnTwoSumIsRenormalizedSpec.pre6 enc Trym.prog Trym.f6 Rows.fnTwoSumIsRenormalizedRow.domain false) (Rows.fnTwoSumIsRenormalizedSpec.post enc Trym.prog Trym.f6 false true false false) := by
  refine returnsInHanded_of_change (C := Trym.checked) own started (by kernel_rfl) Trym.func6
    (ChangeSpec.witness6 (enc := enc) (C := Trym.checked) false ⟨#[], #[.float .f64 0, .float .f64 0], []⟩ 8 (by kernel_rfl) (by kernel_rfl) (by kernel_rfl) (by kernel_rfl)) ?_
  intro W base args ds gs before hval0 hW hcnd _
  have hval : ∀ (j : Nat) t v, Trym.f6.params[j]? = some t → args[j]? = some v → Value.okWide Trym.prog W .any base t v := hval0
  have hW' := hW
  obtain ⟨p, q, hA0, hV, rfl, hfz, hnd⟩ := hW
  have hA : DataW.TrodAll enc Trym.prog W 0 (fun _ => true) true Trym.f6.params.toList args.toList ds p := hA0
  rw [Trym.params6] at hA hval
  obtain ⟨v0, vs0, d0, ds0, p0, q0, hargs, rfl, rfl, h0, r0⟩ := trodAll_cons hA
  obtain ⟨v1, vs1, d1, ds1, p1, q1, rfl, rfl, rfl, h1, r1⟩ := trodAll_cons r0
  obtain ⟨rfl, rfl, rfl⟩ := trodAll_nil r1
  obtain rfl : args = #[v0, v1] := by cases args; simp_all
  obtain ⟨rfl, rfl⟩ := trodVars_none hV
  obtain ⟨a0, rfl, rfl, rfl, w0⟩ := open_float Trym.underlying25 (hval 0 25 v0 rfl rfl) h0
  obtain ⟨a1, rfl, rfl, rfl, w1⟩ := open_float Trym.underlying25 (hval 1 25 v1 rfl rfl) h1
  clear hA0 hval0
  refine (renorm a0 a1 W).mono fun e W' ⟨he, bel⟩ => ?_
  subst he
  exact ⟨_, rfl, _, _, _, [], _, [], hW', trodAll_mk1 (shut_bool Trym.underlying4 _), (trodAll_cons_mk (shut_float Trym.underlying25 w0) (trodAll_cons_mk (shut_float Trym.underlying25 w1) trodAll_mk0)), rfl, bel.frame _, fun h => by cases h⟩

theorem andT {a b : Bool} (ha : a = true) (hb : b = true) : (a && b) = true := by rw [ha, hb]; rfl

/-! the closed facts of the row, each by itself (one by one they take little memory) -/
theorem c1 : (Rows.fnTwoSumIsRenormalizedRow.wf (OpenSpec.ofChange Rows.fnTwoSumIsRenormalizedSpec)) = true := by kernel_rfl
theorem c2 : (laidOutB Trym.pinned.checked.prog) = true := by kernel_rfl
theorem c3 : (mapsRowed Trym.pinned.checked.prog) = true := by kernel_rfl
theorem c4 : (Trym.f6.params.all (Trym.pinned.checked.prog.readableRec ·)) = true := by kernel_rfl
theorem c5 : (namedTie Trym.pinned.checked.prog Rows.fnTwoSumIsRenormalizedRow.named Rows.fnTwoSumIsRenormalizedSpec.vars) = true := by kernel_rfl
theorem c6 : ((Rows.fnTwoSumIsRenormalizedRow.stops == [])) = true := by kernel_rfl
theorem c7 : ((Trym.pinned.checked.prog.stops == [])) = true := by kernel_rfl
theorem c8 : ((Rows.fnTwoSumIsRenormalizedRow.knobs == [])) = true := by kernel_rfl
theorem c9 : ((Trym.pinned.checked.prog.stopKnobs == [])) = true := by kernel_rfl
theorem c10 : ((Rows.fnTwoSumIsRenormalizedRow.inPlace == Trym.pinned.checked.prog.inPlace 6)) = true := by kernel_rfl
theorem c11 : ((Rows.fnTwoSumIsRenormalizedRow.unfollowed == Trym.pinned.checked.prog.unfollowed 6)) = true := by kernel_rfl
theorem c12 : ((Rows.fnTwoSumIsRenormalizedRow.recurses == Trym.pinned.checked.prog.recurses 6)) = true := by kernel_rfl
theorem c13 : ((Rows.fnTwoSumIsRenormalizedRow.named == Trym.pinned.checked.prog.varsNamed 6)) = true := by kernel_rfl
theorem c14 : ((Rows.fnTwoSumIsRenormalizedRow.maps == (Trym.f6.params.toList ++ Rows.fnTwoSumIsRenormalizedSpec.plain.varTypes Trym.pinned.checked.prog).any (Trym.pinned.checked.prog.mapsRec ·))) = true := by kernel_rfl
theorem c15 : ((Rows.fnTwoSumIsRenormalizedRow.ifaces == (Trym.f6.params.toList ++ Rows.fnTwoSumIsRenormalizedSpec.plain.varTypes Trym.pinned.checked.prog).any (Trym.pinned.checked.prog.ifacesRec ·))) = true := by kernel_rfl
theorem c16 : ((Rows.fnTwoSumIsRenormalizedRow.mapsOut == Trym.pinned.checked.prog.mapsAmong Trym.f6.resultTypes.toList)) = true := by kernel_rfl
theorem c17 : ((Rows.fnTwoSumIsRenormalizedRow.loops == (Trym.f6.params.toList ++ Rows.fnTwoSumIsRenormalizedSpec.plain.varTypes Trym.pinned.checked.prog).any (Trym.pinned.checked.prog.loopsFrom ·))) = true := by kernel_rfl
theorem c18 : ((Rows.fnTwoSumIsRenormalizedRow.wideKeys == (Trym.f6.params.toList ++ Rows.fnTwoSumIsRenormalizedSpec.plain.varTypes Trym.pinned.checked.prog ++ Trym.f6.resultTypes.toList).any (Trym.pinned.checked.prog.wideKeysFrom ·))) = true := by kernel_rfl
theorem c19 : (Rows.fnTwoSumIsRenormalizedSpec.vars.all (Trym.pinned.checked.prog.varReadable ·)) = true := by kernel_rfl
theorem c20 : (Trym.f6.resultTypes.all (fun t => Trym.pinned.checked.prog.readableRec t && decide (t < Trym.pinned.checked.prog.types.size))) = true := by kernel_rfl
theorem c21 : ((Rows.fnTwoSumIsRenormalizedRow.ifacesOut == Trym.f6.resultTypes.toList.any (Trym.pinned.checked.prog.ifacesRec ·))) = true := by kernel_rfl
theorem c22 : ((Rows.fnTwoSumIsRenormalizedRow.loopsOut == Trym.f6.resultTypes.toList.any (Trym.pinned.checked.prog.loopsFrom ·))) = true := by kernel_rfl
theorem c23 : ((Rows.fnTwoSumIsRenormalizedRow.plainKeys == Trym.pinned.checked.prog.plainKeys)) = true := by kernel_rfl
theorem c24 : (Rows.fnTwoSumIsRenormalizedRow.shortTexts.isNone) = true := by kernel_rfl
theorem c25 : (Trym.pinned.checked.prog.stopsHeard) = true := by kernel_rfl
theorem c26 : (Trym.pinned.checked.prog.mayEnter) = true := mayEnter_true
theorem c27 : ((Rows.fnTwoSumIsRenormalizedRow.lifted == Trym.pinned.checked.prog.liftsFinal)) = true := by rw [liftsFinal_false]; kernel_rfl
theorem c28 : ((Trym.pinned.checked.prog.make == some Rows.fnTwoSumIsRenormalizedRow.make)) = true := by rw [make_is]; kernel_rfl
theorem c29 : ((Rows.fnTwoSumIsRenormalizedRow.kinds == (if Rows.fnTwoSumIsRenormalizedRow.domain.isEmpty then [] else Trym.f6.params.toList.map fun t => match Trym.pinned.checked.prog.underlying t with | some (.int k) => some k | _ => none))) = true := by kernel_rfl
theorem c30 : ((Rows.fnTwoSumIsRenormalizedRow.pinned == Rows.fnTwoSumIsRenormalizedRow.pinnedBy)) = true := by kernel_rfl
theorem c31 : ((Rows.fnTwoSumIsRenormalizedRow.veiled == (Trym.f6.params.toList ++ Rows.fnTwoSumIsRenormalizedSpec.plain.varTypes Trym.pinned.checked.prog ++ Trym.f6.resultTypes.toList).any (Trym.pinned.checked.prog.veiledRec ·))) = true := by kernel_rfl
theorem c32 : (Rows.fnTwoSumIsRenormalizedRow.veiledFits Trym.pinned.checked.prog Trym.f6.params.toList (Trym.f6.params.toList ++ Rows.fnTwoSumIsRenormalizedSpec.plain.varTypes Trym.pinned.checked.prog ++ Trym.f6.resultTypes.toList)) = true := by kernel_rfl

theorem closed : joinedFacts Trym.pinned.checked.prog 6 Trym.f6 Rows.fnTwoSumIsRenormalizedSpec Rows.fnTwoSumIsRenormalizedRow = true := by
  unfold joinedFacts
  exact (andT (andT (andT (andT (andT (andT (andT (andT (andT (andT (andT (andT (andT (andT (andT (andT (andT (andT (andT (andT (andT (andT (andT (andT (andT (andT (andT (andT (andT (andT (andT c1 c2) c3) c4) c5) c6) c7) c8) c9) c10) c11) c12) c13) c14) c15) c16) c17) c18) c19) c20) c21) c22) c23) c24) c25) c26) c27) c28) c29) c30) c31) c32)

theorem over : Rows.fnTwoSumIsRenormalizedRow.holds Trym.pinned (OpenSpec.ofChange Rows.fnTwoSumIsRenormalizedSpec) :=
  OpenClaim.holds_of_wide 6 Trym.f6 rfl rfl rfl rfl rfl rfl rfl ⟨rfl, rfl, rfl, rfl, rfl⟩ rfl rfl rfl rfl rfl (by kernel_rfl) Trym.func6 closed
    (of_decide_eq_true (by kernel_rfl)) (by unfold Func.isWrapper; first | (rw [if_pos (by decide +kernel)]; kernel_rfl) | (rw [if_neg (by decide +kernel)]; exact ⟨rfl, rfl⟩))
    (fun os started H enc _ => lifted os started H enc)

end Go.Proofs.Qxb6001716aMods.renormRow

namespace Go.Proofs.Qxb6001716aMods
/-- THE STATEMENT -/
theorem renorm_holds : Rows.FnTwoSumIsRenormalizedSaid := renormRow.over
end Go.Proofs.Qxb6001716aMods
