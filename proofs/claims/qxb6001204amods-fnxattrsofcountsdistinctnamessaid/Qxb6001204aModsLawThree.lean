/- The walk of FnXattrsOfInvertsTheirRecords (5). -/
import Derived.Test.Qxb6001204aModsWalkF
import Derived.Test.Qxb6001204aModsPlainB
import Derived.Test.Qxb6001204aModsLawOne
namespace Go.Proofs.Qxb6001204aMods
open Go.RowKit Go.WideMaps Go.Maps Go.WideShapes
open Go.WideElems (Fit rg rd_key rg_of)
set_option linter.unusedVariables false

theorem good_of_owns {w : World} {b n : Nat} {D : DataW Unit} (h : w.ownsMap Trym.prog 9 (plainElem Trym.prog 9) b n D) : Good D := by
  obtain ⟨es, hD, hp⟩ := h.tidy law
  refine ⟨es, hD, hp, fun p hm => ?_⟩
  obtain ⟨es', clock, _, F, _, rfl⟩ := h
  injection hD with hD
  rw [← hD] at hm
  obtain ⟨x, hx, rfl⟩ := List.mem_map.1 (mem_sorted.1 hm)
  obtain ⟨y, hy⟩ := F.reads x hx
  rw [rg_of hy]
  obtain ⟨s, _, e, _⟩ := keyOf_str_inv Trym.underlying9 (rd_key hy)
  exact ⟨_, e⟩

/-- 'm[k]' on a map of strings -/
theorem own_look1 {w : World} {b n : Nat} {D : DataW Unit} (h : w.ownsMap Trym.prog 9 (plainElem Trym.prog 9) b n D) (s : ByteArray) (hs : s.size ≤ maxLen) :
    ∃ c : ByteArray, (Instr.lookup 26 (.map (some b)) (.string s) false).run Trym.prog w = .ok (.string c) w ∧ D.atKey (kOf s) (dOf ByteArray.empty) = dOf c ∧ c.size ≤ maxLen := by
  obtain ⟨v, ps, hrun, hv⟩ := h.lookup law Trym.underlying26 (zero9 w) (plainElem_string Trym.underlying9 (Nat.zero_le _)) (keyOf_string_mk Trym.underlying9 hs)
  obtain ⟨c, rfl, hz, hc⟩ := plainElem_string_inv Trym.underlying9 hv
  exact ⟨c, hrun, congrArg Prod.fst hz, hc⟩

/-- 'len(m)' at the operation, by an equation on its run -/
theorem wpList_len_run {P : Program} (w : World) {ops : Array Oper} {rest : List Oper} {o : Oper} {a : Act} {Q : Exit → Act → World → Prop}
    (hg : o.guard = none) (m : Operand) (t : TypeId) (hop : o.op = Op.call { callee := Callee.builtin Builtin.len, args := #[m], argTypes := #[t] })
    (v : Value) (n : Int) (hm : a.eval m = v) (hrun : ∀ ty, (Builtin.len_ #[t] ty #[v]).run P w = .ok (.int .i64 n) w)
    (hK : wpList P ops Q rest (a.put o.dst (.int .i64 n)) w) :
    wpList P ops Q (o :: rest) a w := by
  refine wpList_plain hg fun K' hK' => ?_
  unfold Oper.wp
  simp [execOp, hop, resolve, invoke, builtin, hm, hrun o.type, Result.andThen]
  exact hK' _ _ hK

theorem got_len {base : Nat} {w : World} {v : Value} {n : Nat} {D : DataW Unit} (h : Got base w v n D) (ty : TypeId) : (Builtin.len_ #[26] ty #[v]).run Trym.prog w = .ok (.int .i64 (size D)) w := by
  rcases h with ⟨rfl, rfl⟩ | ⟨B, rfl, _, ho, _⟩
  · exact Maps.len_nil Trym.underlying26 ty
  · exact ho.len Trym.underlying26 ty

theorem got_good {base : Nat} {w : World} {v : Value} {n : Nat} {D : DataW Unit} (h : Got base w v n D) : Good D := by
  rcases h with ⟨rfl, rfl⟩ | ⟨B, rfl, _, ho, _⟩
  · exact good_empty
  · exact good_of_owns ho

/-- 'got == nil' just if it has no entry -/
theorem got_nil {base : Nat} {w : World} {v : Value} {n : Nat} {D : DataW Unit} (h : Got base w v n D) : ∃ g : Bool, (∀ w : World, (binOp .eql 26 v (.map none)).run Trym.prog w = .ok (.bool g) w) ∧ (∀ (w : World) (x y : Operand), (eqGuard .eql 26 x y v (.map none)).run Trym.prog w = .ok () w) ∧ (g = true ↔ size D = 0) := by
  rcases h with ⟨rfl, rfl⟩ | ⟨B, rfl, _, ho, hz⟩
  · exact ⟨true, fun w => run_eql_map_nil w _ _ _ none Trym.underlying26, fun w x y => by simp [eqGuard], by simp [size]⟩
  · exact ⟨false, fun w => run_eql_map_nil w _ _ _ (some B) Trym.underlying26, fun w x y => by simp [eqGuard], by simp; omega⟩

theorem pfx_size (s : ByteArray) : (⟨#[83, 67, 72, 73, 76, 89, 46, 120, 97, 116, 116, 114, 46]⟩ ++ s : ByteArray).size = 13 + s.size := by
  rw [ByteArray.size_append]
  rfl

theorem pfx_key (s : ByteArray) : kOf (⟨#[83, 67, 72, 73, 76, 89, 46, 120, 97, 116, 116, 114, 46]⟩ ++ s : ByteArray) = .string (PFX ++ s.data.toList) := by
  unfold kOf PFX
  simp

theorem hasPrefix_pfx (s : ByteArray) (w : World) (g : Bool) (hs : s.size ≤ maxLen) (h : PFX.isPrefixOf s.data.toList = g) :
    Calls Trym.prog 13 #[.string s, .string ⟨#[83, 67, 72, 73, 76, 89, 46, 120, 97, 116, 116, 114, 46]⟩] w fun e w' => e = .returned (.bool g) ∧ Below w.heap.size w w' := by
  refine (hasPrefix_any s ⟨#[83, 67, 72, 73, 76, 89, 46, 120, 97, 116, 116, 114, 46]⟩ w hs (by decide)).mono ?_
  rintro e w' ⟨rfl, hb⟩
  exact ⟨by rw [← h]; rfl, hb⟩

set_option maxHeartbeats 2000000 in
theorem law3 (a0 : Option Addr) (len0 cap0 : Nat) (ns : List ByteArray) (a1 : Option Addr) (len1 cap1 : Nat) (vs : List ByteArray) (a2 : Option Addr) (len2 cap2 : Nat) (os : List ByteArray) (w : World)
    (hl0 : len0 ≤ 9223372036854775807) (hc0 : StrsAt w a0 len0 ns) (hs0 : Short ns) (hl1 : len1 ≤ 9223372036854775807) (hc1 : StrsAt w a1 len1 vs) (hs1 : Short vs) (hl2 : len2 ≤ 9223372036854775807) (hc2 : StrsAt w a2 len2 os) (hs2 : Short os) :
    Calls Trym.prog 5 #[.slice a0 len0 cap0, .slice a1 len1 cap1, .slice a2 len2 cap2] w fun e w' => e = .returned (.bool true) ∧ Below w.heap.size w w' := by
  go_enter Trym.func5, Trym.ntmps5
  go_wp2_with fail
  refine (bytes14_any a0 len0 cap0 ns a1 len1 cap1 vs a2 len2 cap2 os w hl0 hc0 hs0 hl1 hc1 hs1 hl2 hc2 hs2).mono ?_
  rintro e w' ⟨⟨t, rfl⟩, rfl⟩
  cases t
  · go_wp2
    go_ret
    exact ⟨rfl, Below.refl _ _⟩
  go_wp2_with fail
  refine (sliceBytes_any a0 len0 cap0 ns w hl0 hc0 hs0).mono ?_
  rintro e w' ⟨⟨t1, rfl, h10, h11, hm0⟩, rfl⟩
  go_wp2_with fail
  refine (sliceBytes_any a1 len1 cap1 vs w hl1 hc1 hs1).mono ?_
  rintro e w' ⟨⟨t2, rfl, h20, h21, hm1⟩, rfl⟩
  go_wp2_with fail
  refine (sliceBytes_any a2 len2 cap2 os w hl2 hc2 hs2).mono ?_
  rintro e w' ⟨⟨t3, rfl, h30, h31, hm2⟩, rfl⟩
  by_cases hsum : t1 + t2 + t3 ≤ 1048576
  case neg =>
    go_wp2
    go_ret
    exact ⟨rfl, Below.refl _ _⟩
  have HSM : Hid (Small ns len0) := hm0 (by omega)
  clear hm0 hm1 hm2
  by_cases hk0 : len0 ≤ 4096
  case neg =>
    go_wp2
    go_ret
    exact ⟨rfl, Below.refl _ _⟩
  by_cases hk1 : len1 ≤ 4096
  case neg =>
    go_wp2
    go_ret
    exact ⟨rfl, Below.refl _ _⟩
  by_cases hk2 : len2 ≤ 4096
  case neg =>
    go_wp2
    go_ret
    exact ⟨rfl, Below.refl _ _⟩
  go_wp2_with fail
  refine (clone_any a0 len0 cap0 ns w hk0 hc0).mono ?_
  rintro e w1 ⟨b0, cp0, rfl, hd0, hb1⟩
  go_wp2_with fail
  refine (clone_any a1 len1 cap1 vs w1 hk1 (hc1.below hb1 (Nat.le_refl _))).mono ?_
  rintro e w2 ⟨b1, cp1, rfl, hd1, hb2⟩
  have hb12 : Below w.heap.size w w2 := hb1.trans (hb2.mono hb1.size)
  go_wp2_with fail
  refine (clone_any a2 len2 cap2 os w2 hk2 (hc2.below hb12 (Nat.le_refl _))).mono ?_
  rintro e w3 ⟨b2, cp2, rfl, hd2, hb3⟩
  have hd0' := (hd0.below hb2 (Nat.le_refl _)).below hb3 (Nat.le_refl _)
  have hd1' := hd1.below hb3 (Nat.le_refl _)
  have hB : Below w.heap.size w w3 := hb12.trans (hb3.mono hb12.size)
  clear hd0 hd1 hb1 hb2 hb3 hb12 hc0 hc1 hc2
  have hmm := run_mk26
  obtain ⟨n, hn⟩ : ∃ n, n = min len0 len1 := ⟨_, rfl⟩
  have hn1 : n ≤ len0 := by omega
  have hn2 : n ≤ len1 := by omega
  have HM : Hid ((if (len0 : Int) < (len1 : Int) then (len0 : Int) else (len1 : Int)) = (n : Int)) := by
    by_cases h : (len0 : Int) < (len1 : Int)
    · show (if (len0 : Int) < (len1 : Int) then (len0 : Int) else (len1 : Int)) = (n : Int)
      rw [if_pos h]; omega
    · show (if (len0 : Int) < (len1 : Int) then (len0 : Int) else (len1 : Int)) = (n : Int)
      rw [if_neg h]; omega
  clear hn
  go_wp2_with (go_at_call 12; refine (min_any _ _ _).mono ?_; rw [HM.out]; rintro e w' ⟨rfl, rfl⟩)
  clear HM
  go_loopw [9] (fun i wr => ∃ k : Nat, k ≤ n ∧ i = .int .i64 k ∧ wr.ownsMap Trym.prog 9 (plainElem Trym.prog 9) w3.heap.size k (recs ns vs k) ∧ Below w3.heap.size w3 wr) (fun i _ => n - (intOf i).toNat)
  case atStart => exact ⟨0, Nat.zero_le _, rfl, World.ownsMap_made _ _ _ _, (Below.refl _ _).alloc (Nat.le_refl _) _⟩
  case round =>
    obtain ⟨k, hk, rfl, hown, hnx⟩ := hrel
    by_cases hlt : k < n
    · obtain ⟨b, off, rfl, hb, hk0⟩ := hd0' k (by omega)
      obtain ⟨b', off', rfl, hb', hv0⟩ := hd1' k (by omega)
      have hk1 : wr.cell? ⟨b, off + k, none⟩ = some (.string (ns.getD k ByteArray.empty)) := (hnx.cell (by exact hb)).trans hk0
      have hv1 : wr.cell? ⟨b', off' + k, none⟩ = some (.string (vs.getD k ByteArray.empty)) := (hnx.cell (by exact hb')).trans hv0
      have hR : plainElem Trym.prog 9 (.string (vs.getD k ByteArray.empty)) = some (dOf (vs.getD k ByteArray.empty), []) := plainElem_string Trym.underlying9 (hs1 k)
      obtain ⟨w1', hrun, hown1, hturn⟩ := hown.drew.store (t := 26) (e := 9) law Trym.underlying26 (by unfold maxLen; omega) (keyOf_string_mk Trym.underlying9 (hs0 k)) hR
      have hown2 : w1'.ownsMap Trym.prog 9 (plainElem Trym.prog 9) w3.heap.size (k + 1) (recs ns vs (k + 1)) := hown1
      have hnx2 : Below w3.heap.size w3 w1' := hnx.drew.grown hturn.grown (by exact hnx.size) (fun j hj => by cases hj; exact Nat.le_refl _)
      generalize ns.getD k ByteArray.empty = s at hk1 hrun
      generalize vs.getD k ByteArray.empty = v at hv1 hrun
      clear hown1 hturn hR hown hnx hk0 hv0 hd0' hd1' hd2 hs0 hs1 hs2 HSM hmm
      go_wp2
      go_region
      go_wp2
      go_roundw
      case rel => exact ⟨k + 1, by omega, by go_num, hown2, hnx2⟩
      case measure => simp [intOf]; omega
    · have hkn : k = n := by omega
      have HA : Hid (wr.ownsMap Trym.prog 9 (plainElem Trym.prog 9) w3.heap.size n (recs ns vs n)) := by
        have := hown
        rw [hkn] at this
        exact this
      obtain ⟨W1, hW1⟩ : ∃ W1, W1 = wr := ⟨_, rfl⟩
      subst hW1
      have he0 := hd0'.below hnx (Nat.le_refl _)
      have he1 := hd1'.below hnx (Nat.le_refl _)
      have he2 := hd2.below hnx (Nat.le_refl _)
      have hB1 : Below w.heap.size w W1 := hB.trans (hnx.mono hB.size)
      clear hown hkn hd0' hd1' hd2 hB hnx
      go_wp2
      go_loopw [11] (fun i wr => ∃ k : Nat, k ≤ n ∧ i = .int .i64 k ∧ wr.ownsMap Trym.prog 9 (plainElem Trym.prog 9) W1.heap.size k (precs ns vs k) ∧ Below W1.heap.size W1 wr) (fun i _ => n - (intOf i).toNat)
      case atStart => exact ⟨0, Nat.zero_le _, rfl, World.ownsMap_made _ _ _ _, (Below.refl _ _).alloc (Nat.le_refl _) _⟩
      case round =>
        obtain ⟨k, hk, rfl, hown, hnx⟩ := hrel
        by_cases hlt : k < n
        · obtain ⟨b, off, rfl, hb, hk0⟩ := he0 k (by omega)
          obtain ⟨b', off', rfl, hb', hv0⟩ := he1 k (by omega)
          have hk1 : wr.cell? ⟨b, off + k, none⟩ = some (.string (ns.getD k ByteArray.empty)) := (hnx.cell (by exact hb)).trans hk0
          have hv1 : wr.cell? ⟨b', off' + k, none⟩ = some (.string (vs.getD k ByteArray.empty)) := (hnx.cell (by exact hb')).trans hv0
          have hR : plainElem Trym.prog 9 (.string (vs.getD k ByteArray.empty)) = some (dOf (vs.getD k ByteArray.empty), []) := plainElem_string Trym.underlying9 (hs1 k)
          have hz := HSM.out k (by omega)
          obtain ⟨w1', hrun, hown1, hturn⟩ := hown.drew.store (t := 26) (e := 9) law Trym.underlying26 (by unfold maxLen; omega) (keyOf_string_mk Trym.underlying9 (s := ⟨#[83, 67, 72, 73, 76, 89, 46, 120, 97, 116, 116, 114, 46]⟩ ++ ns.getD k ByteArray.empty) (by rw [pfx_size]; unfold maxLen; omega)) hR
          have hown2 : w1'.ownsMap Trym.prog 9 (plainElem Trym.prog 9) W1.heap.size (k + 1) (precs ns vs (k + 1)) := by
            unfold precs
            rw [← pfx_key]
            exact hown1
          have hnx2 : Below W1.heap.size W1 w1' := hnx.drew.grown hturn.grown (by exact hnx.size) (fun j hj => by cases hj; exact Nat.le_refl _)
          generalize ns.getD k ByteArray.empty = s at hk1 hrun hz
          generalize vs.getD k ByteArray.empty = v at hv1 hrun
          clear hown1 hturn hR hown hnx hk0 hv0 he0 he1 he2 hs0 hs1 hs2 HSM hmm HA hB1
          go_wp2
          go_region
          go_wp2
          go_roundw
          case rel => exact ⟨k + 1, by omega, by go_num, hown2, hnx2⟩
          case measure => simp [intOf]; omega
        · have hkn : k = n := by omega
          have HP : wr.ownsMap Trym.prog 9 (plainElem Trym.prog 9) W1.heap.size (n + 0) (orecs (precs ns vs n) os 0) := by
            have := hown
            rw [hkn] at this
            exact this
          obtain ⟨W2, hW2⟩ : ∃ W2, W2 = wr := ⟨_, rfl⟩
          subst hW2
          clear hown hkn hmm
          go_wp2
          go_loopw [12] (fun i wr => ∃ k : Nat, k ≤ len2 ∧ i = .int .i64 k ∧ wr.ownsMap Trym.prog 9 (plainElem Trym.prog 9) W1.heap.size (n + k) (orecs (precs ns vs n) os k) ∧ Below W1.heap.size W1 wr) (fun i _ => len2 - (intOf i).toNat)
          case atStart => exact ⟨0, Nat.zero_le _, rfl, HP, hnx⟩
          case round =>
            clear HP hnx
            obtain ⟨k, hk, rfl, hown, hnx⟩ := hrel
            by_cases hlt : k < len2
            · obtain ⟨b, off, rfl, hb, hk0⟩ := he2 k hlt
              have hk1 : wr.cell? ⟨b, off + k, none⟩ = some (.string (os.getD k ByteArray.empty)) := (hnx.cell (by exact hb)).trans hk0
              have hz := hs2 k
              cases hp : PFX.isPrefixOf (os.getD k ByteArray.empty).data.toList
              · have HO : Hid (orecs (precs ns vs n) os (k + 1) = (orecs (precs ns vs n) os k).put (kOf (os.getD k ByteArray.empty)) (dOf (os.getD k ByteArray.empty))) := by
                  show orecs (precs ns vs n) os (k + 1) = _
                  rw [orecs, if_neg (by rw [hp]; simp)]
                have HPP : Hid (PFX.isPrefixOf (os.getD k ByteArray.empty).data.toList = false) := hp
                clear hp hk0
                generalize os.getD k ByteArray.empty = s at hk1 hz HO HPP
                clear he0 he1 he2 hs0 hs1 hs2 HSM HA hB1
                go_wp2_with (first
                  | (go_at_call 13; refine (hasPrefix_pfx s _ false hz HPP.out).mono ?_; rintro e w5 ⟨rfl, hbw⟩; have hown5 := ownsMap_below hown hbw (Nat.le_refl _))
                  | (at_mapUpdate; refine wpList_mapUpdate_own _ rfl _ _ _ 26 rfl 9 9 law Trym.underlying26 _ W1.heap.size (n + k) _ rfl hown5 (by unfold maxLen; omega) _ _ _ rfl rfl (keyOf_string_mk Trym.underlying9 hz) _ [] (plainElem_string Trym.underlying9 hz) ?_; intro w6 hown6 hg6; go_frame)
                  | go_in)
                have hnx5 : Below W1.heap.size W1 w5 := hnx.trans (hbw.mono hnx.size)
                have hnx6 : Below W1.heap.size W1 w6 := hnx5.grown hg6 hnx5.size (fun j hj => by cases hj; exact Nat.le_refl _)
                go_wp2
                go_roundw
                case rel => exact ⟨k + 1, by omega, by go_num, by rw [HO.out]; exact hown6, hnx6⟩
                case measure => simp [intOf]; omega
              · have HO : Hid (orecs (precs ns vs n) os (k + 1) = orecs (precs ns vs n) os k) := by
                  show orecs (precs ns vs n) os (k + 1) = _
                  rw [orecs, if_pos hp]
                have HPP : Hid (PFX.isPrefixOf (os.getD k ByteArray.empty).data.toList = true) := hp
                clear hp hk0
                generalize os.getD k ByteArray.empty = s at hk1 hz HO HPP
                clear he0 he1 he2 hs0 hs1 hs2 HSM HA hB1
                go_wp2_with (first
                  | (go_at_call 13; refine (hasPrefix_pfx s _ true hz HPP.out).mono ?_; rintro e w5 ⟨rfl, hbw⟩; have hown5 := ownsMap_below hown hbw (Nat.le_refl _))
                  | go_in)
                have hnx5 : Below W1.heap.size W1 w5 := hnx.trans (hbw.mono hnx.size)
                go_roundw
                case rel => exact ⟨k + 1, by omega, by go_num, by rw [HO.out]; exact hown5.mono (by omega), hnx5⟩
                case measure => simp [intOf]; omega
            · have hkn : k = len2 := by omega
              have HP : wr.ownsMap Trym.prog 9 (plainElem Trym.prog 9) W1.heap.size (n + len2) (orecs (precs ns vs n) os len2) := by
                have := hown
                rw [hkn] at this
                exact this
              obtain ⟨W3, hW3⟩ : ∃ W3, W3 = wr := ⟨_, rfl⟩
              subst hW3
              have hA3 := ownsMap_below HA.out hnx (Nat.le_refl _)
              have hf0 := he0.below hnx (Nat.le_refl _)
              have hB3 : Below w.heap.size w W3 := hB1.trans (hnx.mono hB1.size)
              clear hown hkn HA he0 he1 he2 hnx hB1
              go_wp2_with fail
              refine (zzxattrs_any _ _ _ W3 HP (Nat.le_trans HP.size_le (by omega))).mono ?_
              rintro e W4 ⟨v, Dout, rfl, hgot, hAg, hb4⟩
              obtain ⟨hE1, hE2⟩ := agreeX_end hAg (fun _ => rfl)
              obtain ⟨hT1, hT2⟩ := recs_through ns vs os n len2
              have hh : ∀ l, has Dout (.string l) = has (recs ns vs n) (.string l) := fun l => by rw [hE1, hT1]
              have hat : ∀ l z, Dout.atKey (.string l) z = (recs ns vs n).atKey (.string l) z := fun l z => by rw [hE2, hT2]
              have hsz : size Dout = size (recs ns vs n) := size_same (got_good hgot) (good_recs ns vs n) hh
              have hB4 : Below w.heap.size w W4 := hB3.trans (hb4.mono hB3.size)
              have hA4 := ownsMap_below hA3 hb4 (Nat.le_refl _)
              have hf4 := hf0.below hb4 (Nat.le_refl _)
              obtain ⟨g, hq, hqg, hg⟩ := got_nil hgot
              have hng : ((n : Int) == 0) = g := by
                have := size_recs_pos ns vs n
                rw [hsz] at hg
                cases g
                · have h1 : size (recs ns vs n) ≠ 0 := fun e => by have := hg.2 e; cases this
                  have h2 : n ≠ 0 := this.1 (by omega)
                  simp [h2]
                · have h1 : size (recs ns vs n) = 0 := hg.1 rfl
                  have h2 : n = 0 := by
                    by_cases c : n = 0
                    · exact c
                    · have := this.2 c; omega
                  simp [h2]
              have hlen1 : ∀ ty, (Builtin.len_ #[26] ty #[v]).run Trym.prog W4 = .ok (.int .i64 (size (recs ns vs n))) W4 := fun ty => by rw [← hsz]; exact got_len hgot ty
              have hlen2 : ∀ ty, (Builtin.len_ #[26] ty #[.map (some w3.heap.size)]).run Trym.prog W4 = .ok (.int .i64 (size (recs ns vs n))) W4 := fun ty => hA4.len Trym.underlying26 ty
              have HL : Hid (∀ k, k < n → ∃ c : ByteArray, (Instr.lookup 26 v (.string (ns.getD k ByteArray.empty)) true).run Trym.prog W4 = .ok (.tuple #[.string c, .bool true]) W4 ∧ (Instr.lookup 26 (.map (some w3.heap.size)) (.string (ns.getD k ByteArray.empty)) false).run Trym.prog W4 = .ok (.string c) W4) := by
                intro k hk
                obtain ⟨c1, hl1, ha1, _⟩ := got_look hgot (ns.getD k ByteArray.empty) (hs0 k)
                obtain ⟨c2, hl2, ha2, _⟩ := own_look1 hA4 (ns.getD k ByteArray.empty) (hs0 k)
                have h12 : c1 = c2 := by
                  apply dOf_inj
                  rw [← ha1, ← ha2]
                  exact hat _ _
                subst h12
                rw [show has Dout (kOf (ns.getD k ByteArray.empty)) = true from (hh _).trans (has_recs ns vs n k hk)] at hl1
                exact ⟨c1, hl1, hl2⟩
              generalize size (recs ns vs n) = m at hlen1 hlen2
              clear hE1 hE2 hT1 hT2 hh hat hsz hB3 hA3 hf0 hg hA4 hAg hgot hb4 HP hs1 hs2 HSM
              go_wp2_with (first
                | (at_len; refine wpList_len_run _ rfl _ 26 rfl v _ rfl hlen1 ?_)
                | (at_len; refine wpList_len_run _ rfl _ 26 rfl (.map (some w3.heap.size)) _ rfl hlen2 ?_)
                | go_in)
              go_loop [15] (fun i => ∃ k : Nat, k ≤ n ∧ i = .int .i64 k) (fun i => n - (intOf i).toNat)
              case atStart => exact ⟨0, Nat.zero_le _, rfl⟩
              case round =>
                obtain ⟨k, hk, rfl⟩ := hrel
                clear hlen1 hlen2 hq hqg hng
                by_cases hlt : k < n
                · obtain ⟨b, off, rfl, hb, hcx⟩ := hf4 k (by omega)
                  obtain ⟨c, hr1, hr2⟩ := HL.out k hlt
                  generalize ns.getD k ByteArray.empty = s at hcx hr1 hr2
                  clear HL hf4 hs0
                  go_wp2
                  go_round
                  case rel => exact ⟨k + 1, by omega, by go_num⟩
                  case measure => simp [intOf]; omega
                · clear HL hf4 hs0
                  go_wp2
                  go_ret
                  exact ⟨rfl, hB4⟩

end Go.Proofs.Qxb6001204aMods
