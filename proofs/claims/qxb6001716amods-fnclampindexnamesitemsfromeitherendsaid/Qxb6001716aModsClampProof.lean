/- 'Rows.FnClampIndexNamesItemsFromEitherEndSaid', proved: the given shell, its hole filled by Qxb6001716aModsClampWalk. -/
import Derived.Test.Qxb6001716aModsHead
import Derived.Test.Qxb6001716aModsRows
import Derived.Test.Qxb6001716aModsClampWalk
import Derived.WalkKit
import Derived.ProofKit
import Derived.OpenShut
import Derived.ShutString
namespace Go.Proofs.Qxb6001716aMods.fnClampIndexNamesItemsFromEitherEnd
open Go.ChangeShapes Go.WideShapes Go.ChangeAt Go.RowKit
open Go.ChangeMaps (open_string shut_string)
set_option linter.unusedVariables false      -- a walk need not use every 'w<i>' (that an integer argument fits its kind)

theorem own : ownKnob Trym.prog.godebug = none := by kernel_rfl

/-! ### STEP 1: THE WALK: the Go text returns true. 'Grown w w'': the world has at most new blocks (Derived/RowKit3.lean). Part the cases AHEAD of 'go_enter' where a test parts the walk; take each callee by a contract of your own. -/
theorem walk (a0 : Int) (a1 : Int) (w0 : (Lit.int .i64 a0).wf = true) (w1 : (Lit.int .i64 a1).wf = true) (w : World) :
    Calls Trym.prog 4 #[.int .i64 a0, .int .i64 a1] w fun e w' => e = .returned (.bool true) ∧ Grown w w' := by
  obtain ⟨i1, i2⟩ := bounds_i64 w0
  obtain ⟨n1, n2⟩ := bounds_i64 w1
  refine (clamp_walk a0 a1 w i1 i2 n1 n2).mono ?_
  rintro e w' ⟨rfl, rfl⟩
  exact ⟨rfl, Grown.refl _⟩

/-! ### THE ROW's STEP: WRITTEN OUT: LEAVE IT -/
set_option maxRecDepth 100000 in
theorem lifted (os : Os) (started : os.Started) (H : Type) (enc : TypeId × Value → H) :
    ReturnsInHanded {} Trym.checked os 4 .any (Rows.fnClampIndexNamesItemsFromEitherEndSpec.pre6 enc Trym.prog Trym.f4 Rows.fnClampIndexNamesItemsFromEitherEndRow.domain false) (Rows.fnClampIndexNamesItemsFromEitherEndSpec.post enc Trym.prog Trym.f4 false true false false) := by
  refine returnsInHanded_of_change (C := Trym.checked) own started (by kernel_rfl) Trym.func4
    (ChangeSpec.witness6 (enc := enc) (C := Trym.checked) false ⟨#[], #[.int .i64 0, .int .i64 0], []⟩ 8 (by kernel_rfl) (by kernel_rfl) (by kernel_rfl) (by kernel_rfl)) ?_
  intro W base args ds gs before hval0 hW hcnd _
  have hval : ∀ (j : Nat) t v, Trym.f4.params[j]? = some t → args[j]? = some v → Value.okWide Trym.prog W .any base t v := hval0
  have hW' := hW
  obtain ⟨p, q, hA0, hV, rfl, hfz, hnd⟩ := hW
  have hA : DataW.TrodAll enc Trym.prog W 0 (fun _ => true) true Trym.f4.params.toList args.toList ds p := hA0
  rw [Trym.params4] at hA hval
  obtain ⟨v0, vs0, d0, ds0, p0, q0, hargs, rfl, rfl, h0, r0⟩ := trodAll_cons hA
  obtain ⟨v1, vs1, d1, ds1, p1, q1, rfl, rfl, rfl, h1, r1⟩ := trodAll_cons r0
  obtain ⟨rfl, rfl, rfl⟩ := trodAll_nil r1
  obtain rfl : args = #[v0, v1] := by cases args; simp_all
  obtain ⟨rfl, rfl⟩ := trodVars_none hV
  obtain ⟨a0, rfl, rfl, rfl, w0⟩ := open_int Trym.underlying3 (hval 0 3 v0 rfl rfl) h0
  obtain ⟨a1, rfl, rfl, rfl, w1⟩ := open_int Trym.underlying3 (hval 1 3 v1 rfl rfl) h1
  clear hA0 hval0
  simp only [List.append_nil] at hW'
  refine (walk a0 a1 w0 w1 W).mono fun e W' ⟨he, hg⟩ => ?_
  subst he
  exact ⟨_, rfl, post_of_same (pa := []) (pv := []) hW' (fun _ _ _ => (trodAll_cons_mk (shut_bool Trym.underlying4 _) trodAll_mk0)) (fun sp _ => (trodAll_cons_mk (shut_int Trym.underlying3 w0) (trodAll_cons_mk (shut_int Trym.underlying3 w1) trodAll_mk0))) (fun _ _ => rfl) rfl
    (hg.frame _) hg.2.1 (ok_one (by kernel_rfl) rfl (okWide_bool_mk Trym.underlying4 _))⟩

theorem andT {a b : Bool} (ha : a = true) (hb : b = true) : (a && b) = true := by rw [ha, hb]; rfl

/-! the closed facts of the row, each by itself (one by one they take little memory) -/
theorem c1 : (Rows.fnClampIndexNamesItemsFromEitherEndRow.wf (OpenSpec.ofChange Rows.fnClampIndexNamesItemsFromEitherEndSpec)) = true := by kernel_rfl
theorem c2 : (laidOutB Trym.pinned.checked.prog) = true := by kernel_rfl
theorem c3 : (mapsRowed Trym.pinned.checked.prog) = true := by kernel_rfl
theorem c4 : (Trym.f4.params.all (Trym.pinned.checked.prog.readableRec ·)) = true := by kernel_rfl
theorem c5 : (namedTie Trym.pinned.checked.prog Rows.fnClampIndexNamesItemsFromEitherEndRow.named Rows.fnClampIndexNamesItemsFromEitherEndSpec.vars) = true := by kernel_rfl
theorem c6 : ((Rows.fnClampIndexNamesItemsFromEitherEndRow.stops == [])) = true := by kernel_rfl
theorem c7 : ((Trym.pinned.checked.prog.stops == [])) = true := by kernel_rfl
theorem c8 : ((Rows.fnClampIndexNamesItemsFromEitherEndRow.knobs == [])) = true := by kernel_rfl
theorem c9 : ((Trym.pinned.checked.prog.stopKnobs == [])) = true := by kernel_rfl
theorem c10 : ((Rows.fnClampIndexNamesItemsFromEitherEndRow.inPlace == Trym.pinned.checked.prog.inPlace 4)) = true := by kernel_rfl
theorem c11 : ((Rows.fnClampIndexNamesItemsFromEitherEndRow.unfollowed == Trym.pinned.checked.prog.unfollowed 4)) = true := by kernel_rfl
theorem c12 : ((Rows.fnClampIndexNamesItemsFromEitherEndRow.recurses == Trym.pinned.checked.prog.recurses 4)) = true := by kernel_rfl
theorem c13 : ((Rows.fnClampIndexNamesItemsFromEitherEndRow.named == Trym.pinned.checked.prog.varsNamed 4)) = true := by kernel_rfl
theorem c14 : ((Rows.fnClampIndexNamesItemsFromEitherEndRow.maps == (Trym.f4.params.toList ++ Rows.fnClampIndexNamesItemsFromEitherEndSpec.plain.varTypes Trym.pinned.checked.prog).any (Trym.pinned.checked.prog.mapsRec ·))) = true := by kernel_rfl
theorem c15 : ((Rows.fnClampIndexNamesItemsFromEitherEndRow.ifaces == (Trym.f4.params.toList ++ Rows.fnClampIndexNamesItemsFromEitherEndSpec.plain.varTypes Trym.pinned.checked.prog).any (Trym.pinned.checked.prog.ifacesRec ·))) = true := by kernel_rfl
theorem c16 : ((Rows.fnClampIndexNamesItemsFromEitherEndRow.mapsOut == Trym.pinned.checked.prog.mapsAmong Trym.f4.resultTypes.toList)) = true := by kernel_rfl
theorem c17 : ((Rows.fnClampIndexNamesItemsFromEitherEndRow.loops == (Trym.f4.params.toList ++ Rows.fnClampIndexNamesItemsFromEitherEndSpec.plain.varTypes Trym.pinned.checked.prog).any (Trym.pinned.checked.prog.loopsFrom ·))) = true := by kernel_rfl
theorem c18 : ((Rows.fnClampIndexNamesItemsFromEitherEndRow.wideKeys == (Trym.f4.params.toList ++ Rows.fnClampIndexNamesItemsFromEitherEndSpec.plain.varTypes Trym.pinned.checked.prog ++ Trym.f4.resultTypes.toList).any (Trym.pinned.checked.prog.wideKeysFrom ·))) = true := by kernel_rfl
theorem c19 : (Rows.fnClampIndexNamesItemsFromEitherEndSpec.vars.all (Trym.pinned.checked.prog.varReadable ·)) = true := by kernel_rfl
theorem c20 : (Trym.f4.resultTypes.all (fun t => Trym.pinned.checked.prog.readableRec t && decide (t < Trym.pinned.checked.prog.types.size))) = true := by kernel_rfl
theorem c21 : ((Rows.fnClampIndexNamesItemsFromEitherEndRow.ifacesOut == Trym.f4.resultTypes.toList.any (Trym.pinned.checked.prog.ifacesRec ·))) = true := by kernel_rfl
theorem c22 : ((Rows.fnClampIndexNamesItemsFromEitherEndRow.loopsOut == Trym.f4.resultTypes.toList.any (Trym.pinned.checked.prog.loopsFrom ·))) = true := by kernel_rfl
theorem c23 : ((Rows.fnClampIndexNamesItemsFromEitherEndRow.plainKeys == Trym.pinned.checked.prog.plainKeys)) = true := by kernel_rfl
theorem c24 : (Rows.fnClampIndexNamesItemsFromEitherEndRow.shortTexts.isNone) = true := by kernel_rfl
theorem c25 : (Trym.pinned.checked.prog.stopsHeard) = true := by kernel_rfl
theorem c26 : (Trym.pinned.checked.prog.mayEnter) = true := mayEnter_true
theorem c27 : ((Rows.fnClampIndexNamesItemsFromEitherEndRow.lifted == Trym.pinned.checked.prog.liftsFinal)) = true := by rw [liftsFinal_false]; kernel_rfl
theorem c28 : ((Trym.pinned.checked.prog.make == some Rows.fnClampIndexNamesItemsFromEitherEndRow.make)) = true := by rw [make_is]; kernel_rfl
theorem c29 : ((Rows.fnClampIndexNamesItemsFromEitherEndRow.kinds == (if Rows.fnClampIndexNamesItemsFromEitherEndRow.domain.isEmpty then [] else Trym.f4.params.toList.map fun t => match Trym.pinned.checked.prog.underlying t with | some (.int k) => some k | _ => none))) = true := by kernel_rfl
theorem c30 : ((Rows.fnClampIndexNamesItemsFromEitherEndRow.pinned == Rows.fnClampIndexNamesItemsFromEitherEndRow.pinnedBy)) = true := by kernel_rfl
theorem c31 : ((Rows.fnClampIndexNamesItemsFromEitherEndRow.veiled == (Trym.f4.params.toList ++ Rows.fnClampIndexNamesItemsFromEitherEndSpec.plain.varTypes Trym.pinned.checked.prog ++ Trym.f4.resultTypes.toList).any (Trym.pinned.checked.prog.veiledRec ·))) = true := by kernel_rfl
theorem c32 : (Rows.fnClampIndexNamesItemsFromEitherEndRow.veiledFits Trym.pinned.checked.prog Trym.f4.params.toList (Trym.f4.params.toList ++ Rows.fnClampIndexNamesItemsFromEitherEndSpec.plain.varTypes Trym.pinned.checked.prog ++ Trym.f4.resultTypes.toList)) = true := by kernel_rfl

theorem closed : joinedFacts Trym.pinned.checked.prog 4 Trym.f4 Rows.fnClampIndexNamesItemsFromEitherEndSpec Rows.fnClampIndexNamesItemsFromEitherEndRow = true := by
  unfold joinedFacts
  exact (andT (andT (andT (andT (andT (andT (andT (andT (andT (andT (andT (andT (andT (andT (andT (andT (andT (andT (andT (andT (andT (andT (andT (andT (andT (andT (andT (andT (andT (andT (andT c1 c2) c3) c4) c5) c6) c7) c8) c9) c10) c11) c12) c13) c14) c15) c16) c17) c18) c19) c20) c21) c22) c23) c24) c25) c26) c27) c28) c29) c30) c31) c32)

theorem over : Rows.fnClampIndexNamesItemsFromEitherEndRow.holds Trym.pinned (OpenSpec.ofChange Rows.fnClampIndexNamesItemsFromEitherEndSpec) :=
  OpenClaim.holds_of_wide 4 Trym.f4 rfl rfl rfl rfl rfl rfl rfl ⟨rfl, rfl, rfl, rfl, rfl⟩ rfl rfl rfl rfl rfl (by kernel_rfl) Trym.func4 closed
    (of_decide_eq_true (by kernel_rfl)) (by unfold Func.isWrapper; first | (rw [if_pos (by decide +kernel)]; kernel_rfl) | (rw [if_neg (by decide +kernel)]; exact ⟨rfl, rfl⟩))
    (fun os started H enc _ => lifted os started H enc)

end Go.Proofs.Qxb6001716aMods.fnClampIndexNamesItemsFromEitherEnd

namespace Go.Proofs.Qxb6001716aMods
/-- THE STATEMENT -/
theorem clamp_holds : Rows.FnClampIndexNamesItemsFromEitherEndSaid := fnClampIndexNamesItemsFromEitherEnd.over
end Go.Proofs.Qxb6001716aMods
