/- 'Rows.FnLastPartsJoinIsInverseSaid', proved: the row's step (the guide's template at this function) and the statement. -/
import Derived.Test.Qxb6001746aModsRows
import Derived.Test.Qxb6001746aModsJoin
import Derived.Test.Qxb6001746aModsHead
import Derived.WalkKit
import Derived.ProofKit
import Derived.OpenShut
import Derived.ShutString
import Derived.ChangeOld
import Derived.Below
namespace Go.Proofs.Qxb6001746aMods.joinRow
open Go.ChangeShapes Go.WideShapes Go.ChangeAt Go.RowKit
open Go.ChangeMaps (open_string shut_string)
set_option linter.unusedVariables false

theorem own : ownKnob Trym.prog.godebug = none := by kernel_rfl

set_option maxRecDepth 100000 in
theorem lifted (os : Os) (started : os.Started) (H : Type) (enc : TypeId × Value → H) :
    ReturnsInHanded {} Trym.checked os 10 .any (Rows.fnLastPartsJoinIsInverseSpec.pre6 enc Trym.prog Trym.f10 Rows.fnLastPartsJoinIsInverseRow.domain false) (Rows.fnLastPartsJoinIsInverseSpec.post enc Trym.prog Trym.f10 false true false false) := by
  refine returnsInHanded_of_change (C := Trym.checked) own started (by kernel_rfl) Trym.func10
    (ChangeSpec.witness6 (enc := enc) (C := Trym.checked) false ⟨#[], #[.string ByteArray.empty, .string ByteArray.empty, .int .i64 0], []⟩ 8 (by kernel_rfl) (by kernel_rfl) (by kernel_rfl) (by kernel_rfl)) ?_
  intro W base args ds gs before hval0 hW hcnd _
  have hval : ∀ (j : Nat) t v, Trym.f10.params[j]? = some t → args[j]? = some v → Value.okWide Trym.prog W .any base t v := hval0
  have hW' := hW
  obtain ⟨p, q, hA0, hV, rfl, hfz, hnd⟩ := hW
  have hA : DataW.TrodAll enc Trym.prog W 0 (fun _ => true) true Trym.f10.params.toList args.toList ds p := hA0
  rw [Trym.params10] at hA hval
  obtain ⟨v0, vs0, d0, ds0, p0, q0, hargs, rfl, rfl, h0, r0⟩ := trodAll_cons hA
  obtain ⟨v1, vs1, d1, ds1, p1, q1, rfl, rfl, rfl, h1, r1⟩ := trodAll_cons r0
  obtain ⟨v2, vs2, d2, ds2, p2, q2, rfl, rfl, rfl, h2, r2⟩ := trodAll_cons r1
  obtain ⟨rfl, rfl, rfl⟩ := trodAll_nil r2
  obtain rfl : args = #[v0, v1, v2] := by cases args; simp_all
  obtain ⟨rfl, rfl⟩ := trodVars_none hV
  obtain ⟨a0, rfl, rfl, rfl, w0⟩ := open_string Trym.underlying9 (hval 0 9 v0 rfl rfl) h0
  obtain ⟨a1, rfl, rfl, rfl, w1⟩ := open_string Trym.underlying9 (hval 1 9 v1 rfl rfl) h1
  obtain ⟨a2, rfl, rfl, rfl, w2⟩ := open_int Trym.underlying3 (hval 2 3 v2 rfl rfl) h2
  clear hA0 hval0
  refine (joinInv a0 a1 a2 W w0 w1 (bounds_i64 w2).1 (bounds_i64 w2).2).mono fun e W' ⟨he, bel⟩ => ?_
  subst he
  exact ⟨_, rfl, _, _, _, [], _, [], hW', trodAll_mk1 (shut_bool Trym.underlying4 _), (trodAll_cons_mk (shut_string Trym.underlying9 w0) (trodAll_cons_mk (shut_string Trym.underlying9 w1) (trodAll_cons_mk (shut_int Trym.underlying3 w2) trodAll_mk0))), rfl, bel.frame _, fun h => by cases h⟩

theorem andT {a b : Bool} (ha : a = true) (hb : b = true) : (a && b) = true := by rw [ha, hb]; rfl

/-! the closed facts of the row, each by itself (one by one they take little memory) -/
theorem c1 : (Rows.fnLastPartsJoinIsInverseRow.wf (OpenSpec.ofChange Rows.fnLastPartsJoinIsInverseSpec)) = true := by kernel_rfl
theorem c2 : (laidOutB Trym.pinned.checked.prog) = true := by kernel_rfl
theorem c3 : (mapsRowed Trym.pinned.checked.prog) = true := by kernel_rfl
theorem c4 : (Trym.f10.params.all (Trym.pinned.checked.prog.readableRec ·)) = true := by kernel_rfl
theorem c5 : (namedTie Trym.pinned.checked.prog Rows.fnLastPartsJoinIsInverseRow.named Rows.fnLastPartsJoinIsInverseSpec.vars) = true := by kernel_rfl
theorem c6 : ((Rows.fnLastPartsJoinIsInverseRow.stops == [])) = true := by kernel_rfl
theorem c7 : ((Trym.pinned.checked.prog.stops == [])) = true := by kernel_rfl
theorem c8 : ((Rows.fnLastPartsJoinIsInverseRow.knobs == [])) = true := by kernel_rfl
theorem c9 : ((Trym.pinned.checked.prog.stopKnobs == [])) = true := by kernel_rfl
theorem c10 : ((Rows.fnLastPartsJoinIsInverseRow.inPlace == Trym.pinned.checked.prog.inPlace 10)) = true := by kernel_rfl
theorem c11 : ((Rows.fnLastPartsJoinIsInverseRow.unfollowed == Trym.pinned.checked.prog.unfollowed 10)) = true := by kernel_rfl
theorem c12 : ((Rows.fnLastPartsJoinIsInverseRow.recurses == Trym.pinned.checked.prog.recurses 10)) = true := by kernel_rfl
theorem c13 : ((Rows.fnLastPartsJoinIsInverseRow.named == Trym.pinned.checked.prog.varsNamed 10)) = true := by kernel_rfl
theorem c14 : ((Rows.fnLastPartsJoinIsInverseRow.maps == (Trym.f10.params.toList ++ Rows.fnLastPartsJoinIsInverseSpec.plain.varTypes Trym.pinned.checked.prog).any (Trym.pinned.checked.prog.mapsRec ·))) = true := by kernel_rfl
theorem c15 : ((Rows.fnLastPartsJoinIsInverseRow.ifaces == (Trym.f10.params.toList ++ Rows.fnLastPartsJoinIsInverseSpec.plain.varTypes Trym.pinned.checked.prog).any (Trym.pinned.checked.prog.ifacesRec ·))) = true := by kernel_rfl
theorem c16 : ((Rows.fnLastPartsJoinIsInverseRow.mapsOut == Trym.pinned.checked.prog.mapsAmong Trym.f10.resultTypes.toList)) = true := by kernel_rfl
theorem c17 : ((Rows.fnLastPartsJoinIsInverseRow.loops == (Trym.f10.params.toList ++ Rows.fnLastPartsJoinIsInverseSpec.plain.varTypes Trym.pinned.checked.prog).any (Trym.pinned.checked.prog.loopsFrom ·))) = true := by kernel_rfl
theorem c18 : ((Rows.fnLastPartsJoinIsInverseRow.wideKeys == (Trym.f10.params.toList ++ Rows.fnLastPartsJoinIsInverseSpec.plain.varTypes Trym.pinned.checked.prog ++ Trym.f10.resultTypes.toList).any (Trym.pinned.checked.prog.wideKeysFrom ·))) = true := by kernel_rfl
theorem c19 : (Rows.fnLastPartsJoinIsInverseSpec.vars.all (Trym.pinned.checked.prog.varReadable ·)) = true := by kernel_rfl
theorem c20 : (Trym.f10.resultTypes.all (fun t => Trym.pinned.checked.prog.readableRec t && decide (t < Trym.pinned.checked.prog.types.size))) = true := by kernel_rfl
theorem c21 : ((Rows.fnLastPartsJoinIsInverseRow.ifacesOut == Trym.f10.resultTypes.toList.any (Trym.pinned.checked.prog.ifacesRec ·))) = true := by kernel_rfl
theorem c22 : ((Rows.fnLastPartsJoinIsInverseRow.loopsOut == Trym.f10.resultTypes.toList.any (Trym.pinned.checked.prog.loopsFrom ·))) = true := by kernel_rfl
theorem c23 : ((Rows.fnLastPartsJoinIsInverseRow.plainKeys == Trym.pinned.checked.prog.plainKeys)) = true := by kernel_rfl
theorem c24 : (Rows.fnLastPartsJoinIsInverseRow.shortTexts.isNone) = true := by kernel_rfl
theorem c25 : (Trym.pinned.checked.prog.stopsHeard) = true := by kernel_rfl
theorem c26 : (Trym.pinned.checked.prog.mayEnter) = true := mayEnter_true
theorem c27 : ((Rows.fnLastPartsJoinIsInverseRow.lifted == Trym.pinned.checked.prog.liftsFinal)) = true := by rw [liftsFinal_false]; kernel_rfl
theorem c28 : ((Trym.pinned.checked.prog.make == some Rows.fnLastPartsJoinIsInverseRow.make)) = true := by rw [make_is]; kernel_rfl
theorem c29 : ((Rows.fnLastPartsJoinIsInverseRow.kinds == (if Rows.fnLastPartsJoinIsInverseRow.domain.isEmpty then [] else Trym.f10.params.toList.map fun t => match Trym.pinned.checked.prog.underlying t with | some (.int k) => some k | _ => none))) = true := by kernel_rfl
theorem c30 : ((Rows.fnLastPartsJoinIsInverseRow.pinned == Rows.fnLastPartsJoinIsInverseRow.pinnedBy)) = true := by kernel_rfl
theorem c31 : ((Rows.fnLastPartsJoinIsInverseRow.veiled == (Trym.f10.params.toList ++ Rows.fnLastPartsJoinIsInverseSpec.plain.varTypes Trym.pinned.checked.prog ++ Trym.f10.resultTypes.toList).any (Trym.pinned.checked.prog.veiledRec ·))) = true := by kernel_rfl
theorem c32 : (Rows.fnLastPartsJoinIsInverseRow.veiledFits Trym.pinned.checked.prog Trym.f10.params.toList (Trym.f10.params.toList ++ Rows.fnLastPartsJoinIsInverseSpec.plain.varTypes Trym.pinned.checked.prog ++ Trym.f10.resultTypes.toList)) = true := by kernel_rfl

theorem closed : joinedFacts Trym.pinned.checked.prog 10 Trym.f10 Rows.fnLastPartsJoinIsInverseSpec Rows.fnLastPartsJoinIsInverseRow = true := by
  unfold joinedFacts
  exact (andT (andT (andT (andT (andT (andT (andT (andT (andT (andT (andT (andT (andT (andT (andT (andT (andT (andT (andT (andT (andT (andT (andT (andT (andT (andT (andT (andT (andT (andT (andT c1 c2) c3) c4) c5) c6) c7) c8) c9) c10) c11) c12) c13) c14) c15) c16) c17) c18) c19) c20) c21) c22) c23) c24) c25) c26) c27) c28) c29) c30) c31) c32)

theorem over : Rows.fnLastPartsJoinIsInverseRow.holds Trym.pinned (OpenSpec.ofChange Rows.fnLastPartsJoinIsInverseSpec) :=
  OpenClaim.holds_of_wide 10 Trym.f10 rfl rfl rfl rfl rfl rfl rfl ⟨rfl, rfl, rfl, rfl, rfl⟩ rfl rfl rfl rfl rfl (by kernel_rfl) Trym.func10 closed
    (of_decide_eq_true (by kernel_rfl)) (by unfold Func.isWrapper; first | (rw [if_pos (by decide +kernel)]; kernel_rfl) | (rw [if_neg (by decide +kernel)]; exact ⟨rfl, rfl⟩))
    (fun os started H enc _ => lifted os started H enc)

end Go.Proofs.Qxb6001746aMods.joinRow

namespace Go.Proofs.Qxb6001746aMods
/-- THE STATEMENT -/
theorem join_holds : Rows.FnLastPartsJoinIsInverseSaid := joinRow.over
end Go.Proofs.Qxb6001746aMods
