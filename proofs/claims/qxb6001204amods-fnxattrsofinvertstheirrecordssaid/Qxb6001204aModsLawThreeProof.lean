/- 'Rows.FnXattrsOfInvertsTheirRecordsSaid', proved: the row's step (the guide's template at this function) and the statement. -/
import Derived.Test.Qxb6001204aModsHead
import Derived.Test.Qxb6001204aModsFrame
import Derived.Test.Qxb6001204aModsLawThree
namespace Go.Proofs.Qxb6001204aMods.lawThree
open Go.ChangeShapes Go.WideShapes Go.ChangeAt Go.RowKit
set_option linter.unusedVariables false

set_option maxRecDepth 100000 in
theorem lifted (os : Os) (started : os.Started) (H : Type) (enc : TypeId × Value → H) :
    ReturnsInHanded {} Trym.checked os 5 .any (Rows.fnXattrsOfInvertsTheirRecordsSpec.pre6 enc Trym.prog Trym.f5 Rows.fnXattrsOfInvertsTheirRecordsRow.domain false) (Rows.fnXattrsOfInvertsTheirRecordsSpec.post enc Trym.prog Trym.f5 false true false false) := by
  refine returnsInHanded_of_change (C := Trym.checked) own started (by kernel_rfl) Trym.func5
    (ChangeSpec.witness6 (enc := enc) (C := Trym.checked) false ⟨#[], #[.slice none 0 0, .slice none 0 0, .slice none 0 0], []⟩ 8 (by kernel_rfl) (by kernel_rfl) (by kernel_rfl) (by kernel_rfl)) ?_
  intro W base args ds gs before hval0 hW hcnd _
  have hval : ∀ (j : Nat) t v, Trym.f5.params[j]? = some t → args[j]? = some v → Value.okWide Trym.prog W .any base t v := hval0
  have hW' := hW
  obtain ⟨p, q, hA0, hV, rfl, hfz, hnd⟩ := hW
  have hA : DataW.TrodAll enc Trym.prog W 0 (fun _ => true) true Trym.f5.params.toList args.toList ds p := hA0
  rw [Trym.params5] at hA hval
  obtain ⟨v0, vs0, d0, ds0, p0, q0, hargs, rfl, rfl, h0, r0⟩ := trodAll_cons hA
  obtain ⟨v1, vs1, d1, ds1, p1, q1, rfl, rfl, rfl, h1, r1⟩ := trodAll_cons r0
  obtain ⟨v2, vs2, d2, ds2, p2, q2, rfl, rfl, rfl, h2, r2⟩ := trodAll_cons r1
  obtain ⟨rfl, rfl, rfl⟩ := trodAll_nil r2
  obtain rfl : args = #[v0, v1, v2] := by cases args; simp_all
  obtain ⟨rfl, rfl⟩ := trodVars_none hV
  obtain ⟨a0, len0, cap0, rfl⟩ := okWide_slice Trym.underlying22 (hval 0 22 v0 rfl rfl)
  obtain ⟨a1, len1, cap1, rfl⟩ := okWide_slice Trym.underlying22 (hval 1 22 v1 rfl rfl)
  obtain ⟨a2, len2, cap2, rfl⟩ := okWide_slice Trym.underlying22 (hval 2 22 v2 rfl rfl)
  have k0 := h0
  have k1 := h1
  have k2 := h2
  have lt0 : ∀ x ∈ p0, x.block < W.heap.size := by obtain ⟨m, hm⟩ := k0; exact DataW.trod_lt m _ _ _ hm
  have lt1 : ∀ x ∈ p1, x.block < W.heap.size := by obtain ⟨m, hm⟩ := k1; exact DataW.trod_lt m _ _ _ hm
  have lt2 : ∀ x ∈ p2, x.block < W.heap.size := by obtain ⟨m, hm⟩ := k2; exact DataW.trod_lt m _ _ _ hm
  obtain ⟨l0, s0, c0, z0⟩ := strs_open h0
  obtain ⟨l1, s1, c1, z1⟩ := strs_open h1
  obtain ⟨l2, s2, c2, z2⟩ := strs_open h2
  clear hA0 hval0
  refine (law3 a0 len0 cap0 s0 a1 len1 cap1 s1 a2 len2 cap2 s2 W l0 c0 z0 l1 c1 z1 l2 c2 z2).mono fun e W' ⟨he, bel⟩ => ?_
  subst he
  exact ⟨_, rfl, _, _, _, [], _, [], hW', trodAll_mk1 (shut_bool Trym.underlying4 _), (trodAll_cons_mk (Below.trod laidOut (by kernel_rfl) (of_decide_eq_true (by kernel_rfl)) k0 bel lt0) (trodAll_cons_mk (Below.trod laidOut (by kernel_rfl) (of_decide_eq_true (by kernel_rfl)) k1 bel lt1) (trodAll_cons_mk (Below.trod laidOut (by kernel_rfl) (of_decide_eq_true (by kernel_rfl)) k2 bel lt2) trodAll_mk0))), rfl, bel.frame _, fun h => by cases h⟩

theorem andT {a b : Bool} (ha : a = true) (hb : b = true) : (a && b) = true := by rw [ha, hb]; rfl

/-! the closed facts of the row, each by itself (one by one they take little memory) -/
theorem c1 : (Rows.fnXattrsOfInvertsTheirRecordsRow.wf (OpenSpec.ofChange Rows.fnXattrsOfInvertsTheirRecordsSpec)) = true := by kernel_rfl
theorem c2 : (laidOutB Trym.pinned.checked.prog) = true := by kernel_rfl
theorem c3 : (mapsRowed Trym.pinned.checked.prog) = true := by kernel_rfl
theorem c4 : (Trym.f5.params.all (Trym.pinned.checked.prog.readableRec ·)) = true := by kernel_rfl
theorem c5 : (namedTie Trym.pinned.checked.prog Rows.fnXattrsOfInvertsTheirRecordsRow.named Rows.fnXattrsOfInvertsTheirRecordsSpec.vars) = true := by kernel_rfl
theorem c6 : ((Rows.fnXattrsOfInvertsTheirRecordsRow.stops == [])) = true := by kernel_rfl
theorem c7 : ((Trym.pinned.checked.prog.stops == [])) = true := by kernel_rfl
theorem c8 : ((Rows.fnXattrsOfInvertsTheirRecordsRow.knobs == [])) = true := by kernel_rfl
theorem c9 : ((Trym.pinned.checked.prog.stopKnobs == [])) = true := by kernel_rfl
theorem c10 : ((Rows.fnXattrsOfInvertsTheirRecordsRow.inPlace == Trym.pinned.checked.prog.inPlace 5)) = true := by kernel_rfl
theorem c11 : ((Rows.fnXattrsOfInvertsTheirRecordsRow.unfollowed == Trym.pinned.checked.prog.unfollowed 5)) = true := by kernel_rfl
theorem c12 : ((Rows.fnXattrsOfInvertsTheirRecordsRow.recurses == Trym.pinned.checked.prog.recurses 5)) = true := by kernel_rfl
theorem c13 : ((Rows.fnXattrsOfInvertsTheirRecordsRow.named == Trym.pinned.checked.prog.varsNamed 5)) = true := by kernel_rfl
theorem c14 : ((Rows.fnXattrsOfInvertsTheirRecordsRow.maps == (Trym.f5.params.toList ++ Rows.fnXattrsOfInvertsTheirRecordsSpec.plain.varTypes Trym.pinned.checked.prog).any (Trym.pinned.checked.prog.mapsRec ·))) = true := by kernel_rfl
theorem c15 : ((Rows.fnXattrsOfInvertsTheirRecordsRow.ifaces == (Trym.f5.params.toList ++ Rows.fnXattrsOfInvertsTheirRecordsSpec.plain.varTypes Trym.pinned.checked.prog).any (Trym.pinned.checked.prog.ifacesRec ·))) = true := by kernel_rfl
theorem c16 : ((Rows.fnXattrsOfInvertsTheirRecordsRow.mapsOut == Trym.pinned.checked.prog.mapsAmong Trym.f5.resultTypes.toList)) = true := by kernel_rfl
theorem c17 : ((Rows.fnXattrsOfInvertsTheirRecordsRow.loops == (Trym.f5.params.toList ++ Rows.fnXattrsOfInvertsTheirRecordsSpec.plain.varTypes Trym.pinned.checked.prog).any (Trym.pinned.checked.prog.loopsFrom ·))) = true := by kernel_rfl
theorem c18 : ((Rows.fnXattrsOfInvertsTheirRecordsRow.wideKeys == (Trym.f5.params.toList ++ Rows.fnXattrsOfInvertsTheirRecordsSpec.plain.varTypes Trym.pinned.checked.prog ++ Trym.f5.resultTypes.toList).any (Trym.pinned.checked.prog.wideKeysFrom ·))) = true := by kernel_rfl
theorem c19 : (Rows.fnXattrsOfInvertsTheirRecordsSpec.vars.all (Trym.pinned.checked.prog.varReadable ·)) = true := by kernel_rfl
theorem c20 : (Trym.f5.resultTypes.all (fun t => Trym.pinned.checked.prog.readableRec t && decide (t < Trym.pinned.checked.prog.types.size))) = true := by kernel_rfl
theorem c21 : ((Rows.fnXattrsOfInvertsTheirRecordsRow.ifacesOut == Trym.f5.resultTypes.toList.any (Trym.pinned.checked.prog.ifacesRec ·))) = true := by kernel_rfl
theorem c22 : ((Rows.fnXattrsOfInvertsTheirRecordsRow.loopsOut == Trym.f5.resultTypes.toList.any (Trym.pinned.checked.prog.loopsFrom ·))) = true := by kernel_rfl
theorem c23 : ((Rows.fnXattrsOfInvertsTheirRecordsRow.plainKeys == Trym.pinned.checked.prog.plainKeys)) = true := by kernel_rfl
theorem c24 : (Rows.fnXattrsOfInvertsTheirRecordsRow.shortTexts.isNone) = true := by kernel_rfl
theorem c25 : (Trym.pinned.checked.prog.stopsHeard) = true := by kernel_rfl
theorem c26 : (Trym.pinned.checked.prog.mayEnter) = true := mayEnter_true
theorem c27 : ((Rows.fnXattrsOfInvertsTheirRecordsRow.lifted == Trym.pinned.checked.prog.liftsFinal)) = true := by rw [liftsFinal_false]; kernel_rfl
theorem c28 : ((Trym.pinned.checked.prog.make == some Rows.fnXattrsOfInvertsTheirRecordsRow.make)) = true := by rw [make_is]; kernel_rfl
theorem c29 : ((Rows.fnXattrsOfInvertsTheirRecordsRow.kinds == (if Rows.fnXattrsOfInvertsTheirRecordsRow.domain.isEmpty then [] else Trym.f5.params.toList.map fun t => match Trym.pinned.checked.prog.underlying t with | some (.int k) => some k | _ => none))) = true := by kernel_rfl
theorem c30 : ((Rows.fnXattrsOfInvertsTheirRecordsRow.pinned == Rows.fnXattrsOfInvertsTheirRecordsRow.pinnedBy)) = true := by kernel_rfl
theorem c31 : ((Rows.fnXattrsOfInvertsTheirRecordsRow.veiled == (Trym.f5.params.toList ++ Rows.fnXattrsOfInvertsTheirRecordsSpec.plain.varTypes Trym.pinned.checked.prog ++ Trym.f5.resultTypes.toList).any (Trym.pinned.checked.prog.veiledRec ·))) = true := by kernel_rfl
theorem c32 : (Rows.fnXattrsOfInvertsTheirRecordsRow.veiledFits Trym.pinned.checked.prog Trym.f5.params.toList (Trym.f5.params.toList ++ Rows.fnXattrsOfInvertsTheirRecordsSpec.plain.varTypes Trym.pinned.checked.prog ++ Trym.f5.resultTypes.toList)) = true := by kernel_rfl

theorem closed : joinedFacts Trym.pinned.checked.prog 5 Trym.f5 Rows.fnXattrsOfInvertsTheirRecordsSpec Rows.fnXattrsOfInvertsTheirRecordsRow = true := by
  unfold joinedFacts
  exact (andT (andT (andT (andT (andT (andT (andT (andT (andT (andT (andT (andT (andT (andT (andT (andT (andT (andT (andT (andT (andT (andT (andT (andT (andT (andT (andT (andT (andT (andT (andT c1 c2) c3) c4) c5) c6) c7) c8) c9) c10) c11) c12) c13) c14) c15) c16) c17) c18) c19) c20) c21) c22) c23) c24) c25) c26) c27) c28) c29) c30) c31) c32)

theorem over : Rows.fnXattrsOfInvertsTheirRecordsRow.holds Trym.pinned (OpenSpec.ofChange Rows.fnXattrsOfInvertsTheirRecordsSpec) :=
  OpenClaim.holds_of_wide 5 Trym.f5 rfl rfl rfl rfl rfl rfl rfl ⟨rfl, rfl, rfl, rfl, rfl⟩ rfl rfl rfl rfl rfl (by kernel_rfl) Trym.func5 closed
    (of_decide_eq_true (by kernel_rfl)) (by unfold Func.isWrapper; first | (rw [if_pos (by decide +kernel)]; kernel_rfl) | (rw [if_neg (by decide +kernel)]; exact ⟨rfl, rfl⟩))
    (fun os started H enc _ => lifted os started H enc)

end Go.Proofs.Qxb6001204aMods.lawThree

namespace Go.Proofs.Qxb6001204aMods
/-- THE STATEMENT -/
theorem lawThree_holds : Rows.FnXattrsOfInvertsTheirRecordsSaid := lawThree.over
end Go.Proofs.Qxb6001204aMods
