/- The walk of FnXattrsOfCountsDistinctNames (4). -/
import Derived.Test.Qxb6001204aModsLawThree
import Derived.Test.Qxb6001204aModsPlainC
namespace Go.Proofs.Qxb6001204aMods
open Go.RowKit Go.WideMaps Go.Maps
set_option linter.unusedVariables false

theorem zero4 (w : World) : (zeroValue 4).run Trym.prog w = .ok (.bool false) w := by kernel_rfl

theorem run_mk32 (n : Int) (w : World) : (Instr.makeMap 32 (some (.int .i64 n))).run Trym.prog w = .ok (.map (some w.heap.size)) (w.alloc (.map #[] 0)) := by
  simp [Instr.makeMap, run_underlying Trym.underlying32, go_sem]

theorem ownsMap_below4 {w w' : World} {b n m : Nat} {D : DataW Unit} (h : w.ownsMap Trym.prog 9 (plainElem Trym.prog 4) b n D) (hb : Below m w w') (hm : w.heap.size ≤ m) : w'.ownsMap Trym.prog 9 (plainElem Trym.prog 4) b n D := by
  have hlt := h.lt
  obtain ⟨es, clock, e, r⟩ := h
  exact ⟨es, clock, (hb.block b (by omega)).trans e, r⟩

theorem plainElem_bool_inv {v : Value} {z : DataW Unit × List MemPlace} (h : plainElem Trym.prog 4 v = some z) : ∃ c : Bool, v = .bool c ∧ z = (.lit (.bool c), []) := by
  unfold plainElem at h
  rw [Trym.underlying4] at h
  cases v <;> simp at h
  exact ⟨_, rfl, h.symm⟩

/-- 'seen[k]' -/
theorem seen_look {w : World} {b n : Nat} {D : DataW Unit} (h : w.ownsMap Trym.prog 9 (plainElem Trym.prog 4) b n D) (hD : AllTrue D) (s : ByteArray) (hs : s.size ≤ maxLen) :
    (Instr.lookup 32 (.map (some b)) (.string s) false).run Trym.prog w = .ok (.bool (has D (kOf s))) w := by
  obtain ⟨v, ps, hrun, hv⟩ := h.lookup law Trym.underlying32 (zero4 w) (plainElem_bool Trym.underlying4 false) (keyOf_string_mk Trym.underlying9 hs)
  obtain ⟨c, rfl, hz⟩ := plainElem_bool_inv hv
  have h1 : D.atKey (kOf s) (.lit (.bool false)) = .lit (.bool c) := congrArg Prod.fst hz
  rw [atKey_allTrue hD] at h1
  injection h1 with h1
  injection h1 with h1
  rw [h1]
  exact hrun

set_option maxHeartbeats 2000000 in
theorem law2 (a0 : Option Addr) (len0 cap0 : Nat) (ks : List ByteArray) (a1 : Option Addr) (len1 cap1 : Nat) (vs : List ByteArray) (w : World)
    (hl0 : len0 ≤ 9223372036854775807) (hc0 : StrsAt w a0 len0 ks) (hs0 : Short ks) (hl1 : len1 ≤ 9223372036854775807) (hc1 : StrsAt w a1 len1 vs) (hs1 : Short vs) :
    Calls Trym.prog 4 #[.slice a0 len0 cap0, .slice a1 len1 cap1] w fun e w' => e = .returned (.bool true) ∧ Below w.heap.size w w' := by
  go_enter Trym.func4, Trym.ntmps4
  go_wp2_with fail
  refine (bytes11_any a0 len0 cap0 ks a1 len1 cap1 vs w hl0 hc0 hs0 hl1 hc1 hs1).mono ?_
  rintro e w' ⟨⟨t, rfl⟩, rfl⟩
  cases t
  · go_wp2
    go_ret
    exact ⟨rfl, Below.refl _ _⟩
  go_wp2_with fail
  refine (sliceBytes_any a0 len0 cap0 ks w hl0 hc0 hs0).mono ?_
  rintro e w' ⟨⟨t1, rfl, h10, h11, hm0⟩, rfl⟩
  go_wp2_with fail
  refine (sliceBytes_any a1 len1 cap1 vs w hl1 hc1 hs1).mono ?_
  rintro e w' ⟨⟨t2, rfl, h20, h21, hm1⟩, rfl⟩
  clear hm0 hm1
  by_cases hsum : t1 + t2 ≤ 1048576
  case neg =>
    go_wp2
    go_ret
    exact ⟨rfl, Below.refl _ _⟩
  by_cases hk0 : len0 ≤ 4096
  case neg =>
    go_wp2
    go_ret
    exact ⟨rfl, Below.refl _ _⟩
  by_cases hk1 : len1 ≤ 4096
  case neg =>
    go_wp2
    go_ret
    exact ⟨rfl, Below.refl _ _⟩
  go_wp2_with fail
  refine (clone_any a0 len0 cap0 ks w hk0 hc0).mono ?_
  rintro e w1 ⟨b0, cp0, rfl, hd0, hb1⟩
  go_wp2_with fail
  refine (clone_any a1 len1 cap1 vs w1 hk1 (hc1.below hb1 (Nat.le_refl _))).mono ?_
  rintro e w2 ⟨b1, cp1, rfl, hd1, hb2⟩
  have hb12 : Below w.heap.size w w2 := hb1.trans (hb2.mono hb1.size)
  have hd0' := hd0.below hb2 (Nat.le_refl _)
  go_wp2_with fail
  refine (records_any b0 len0 cp0 ks b1 len1 cp1 vs w2 hk0 hd0' hs0 hk1 hd1 hs1).mono ?_
  rintro e w3 ⟨rfl, hown3, hb3⟩
  have he0 := hd0'.below hb3 (Nat.le_refl _)
  have hB : Below w.heap.size w w3 := hb12.trans (hb3.mono hb12.size)
  clear hd0 hd0' hd1 hb1 hb2 hb3 hb12 hc0 hc1 hs1
  have hmm := run_mk32
  obtain ⟨n, hn⟩ : ∃ n, n = min len0 len1 := ⟨_, rfl⟩
  have hn1 : n ≤ len0 := by omega
  have HM : Hid ((if (len0 : Int) < (len1 : Int) then (len0 : Int) else (len1 : Int)) = (n : Int)) := by
    by_cases h : (len0 : Int) < (len1 : Int)
    · show (if (len0 : Int) < (len1 : Int) then (len0 : Int) else (len1 : Int)) = (n : Int)
      rw [if_pos h]; omega
    · show (if (len0 : Int) < (len1 : Int) then (len0 : Int) else (len1 : Int)) = (n : Int)
      rw [if_neg h]; omega
  rw [← hn] at hown3
  clear hn
  go_wp2_with (go_at_call 12; refine (min_any _ _ _).mono ?_; rw [HM.out]; rintro e w' ⟨rfl, rfl⟩)
  clear HM hmm
  go_loopw [8, 9] (fun c i wr => ∃ k : Nat, k ≤ n ∧ i = .int .i64 k ∧ c = .int .i64 (size (seens ks k) : Nat) ∧ wr.ownsMap Trym.prog 9 (plainElem Trym.prog 4) w3.heap.size k (seens ks k) ∧ Below w3.heap.size w3 wr) (fun _ i _ => n - (intOf i).toNat)
  case atStart => exact ⟨0, Nat.zero_le _, rfl, rfl, World.ownsMap_made _ _ _ _, (Below.refl _ _).alloc (Nat.le_refl _) _⟩
  case round =>
    obtain ⟨k, hk, rfl, rfl, hown, hnx⟩ := hrel
    by_cases hlt : k < n
    · obtain ⟨b, off, rfl, hb, hk0'⟩ := he0 k (by omega)
      have hk1' : wr.cell? ⟨b, off + k, none⟩ = some (.string (ks.getD k ByteArray.empty)) := (hnx.cell (by exact hb)).trans hk0'
      have hz := hs0 k
      have hszl := hown.size_le
      cases hp : PFX.isPrefixOf (ks.getD k ByteArray.empty).data.toList
      · have HO : Hid (seens ks (k + 1) = seens ks k) := seens_old ks k (Or.inl hp)
        have HPP : Hid (PFX.isPrefixOf (ks.getD k ByteArray.empty).data.toList = false) := hp
        clear hp hk0'
        generalize ks.getD k ByteArray.empty = s at hk1' hz HPP
        clear he0 hs0 hB hown3
        go_wp2_with (first
          | (go_at_call 13; refine (hasPrefix_pfx s _ false hz HPP.out).mono ?_; rintro e w5 ⟨rfl, hbw⟩; have hown5 := ownsMap_below4 hown hbw (Nat.le_refl _))
          | go_in)
        have hnx5 : Below w3.heap.size w3 w5 := hnx.trans (hbw.mono hnx.size)
        go_roundw
        case rel => exact ⟨k + 1, by omega, by go_num, by rw [HO.out], by rw [HO.out]; exact hown5.mono (by omega), hnx5⟩
        case measure => simp [intOf]; omega
      · cases hse : has (seens ks k) (kOf (ks.getD k ByteArray.empty))
        · obtain ⟨HO1, HO2⟩ := size_seens_new ks k hp hse
          have HT := allTrue_seens ks k
          have HH1 : Hid (seens ks (k + 1) = (seens ks k).put (kOf (ks.getD k ByteArray.empty)) (.lit (.bool true))) := HO1
          have HH2 : Hid (size (seens ks (k + 1)) = size (seens ks k) + 1) := HO2
          have HPP : Hid (PFX.isPrefixOf (ks.getD k ByteArray.empty).data.toList = true) := hp
          have HSE : Hid (has (seens ks k) (kOf (ks.getD k ByteArray.empty)) = false) := hse
          clear hp hse hk0' HO1 HO2
          generalize ks.getD k ByteArray.empty = s at hk1' hz HPP HSE HH1
          clear he0 hs0 hB hown3
          go_wp2_with (first
            | (go_at_call 13; refine (hasPrefix_pfx s _ true hz HPP.out).mono ?_; rintro e w5 ⟨rfl, hbw⟩; have hown5 := ownsMap_below4 hown hbw (Nat.le_refl _); have hlook := seen_look hown5 HT s hz; rw [HSE.out] at hlook)
            | (at_mapUpdate; refine wpList_mapUpdate_own _ rfl _ _ _ 32 rfl 9 4 law Trym.underlying32 _ w3.heap.size k _ rfl hown5 (by unfold maxLen; omega) _ _ _ rfl rfl (keyOf_string_mk Trym.underlying9 hz) _ [] (plainElem_bool Trym.underlying4 true) ?_; intro w6 hown6 hg6; go_frame)
            | go_in)
          have hnx5 : Below w3.heap.size w3 w5 := hnx.trans (hbw.mono hnx.size)
          have hnx6 : Below w3.heap.size w3 w6 := hnx5.grown hg6 hnx5.size (fun j hj => by cases hj; exact Nat.le_refl _)
          go_wp2
          go_roundw
          case rel => exact ⟨k + 1, by omega, by go_num, by rw [HH2.out]; go_num, by rw [HH1.out]; exact hown6, hnx6⟩
          case measure => simp [intOf]; omega
        · have HO : Hid (seens ks (k + 1) = seens ks k) := seens_old ks k (Or.inr hse)
          have HT := allTrue_seens ks k
          have HPP : Hid (PFX.isPrefixOf (ks.getD k ByteArray.empty).data.toList = true) := hp
          have HSE : Hid (has (seens ks k) (kOf (ks.getD k ByteArray.empty)) = true) := hse
          clear hp hse hk0'
          generalize ks.getD k ByteArray.empty = s at hk1' hz HPP HSE
          clear he0 hs0 hB hown3
          go_wp2_with (first
            | (go_at_call 13; refine (hasPrefix_pfx s _ true hz HPP.out).mono ?_; rintro e w5 ⟨rfl, hbw⟩; have hown5 := ownsMap_below4 hown hbw (Nat.le_refl _); have hlook := seen_look hown5 HT s hz; rw [HSE.out] at hlook)
            | go_in)
          have hnx5 : Below w3.heap.size w3 w5 := hnx.trans (hbw.mono hnx.size)
          go_roundw
          case rel => exact ⟨k + 1, by omega, by go_num, by rw [HO.out], by rw [HO.out]; exact hown5.mono (by omega), hnx5⟩
          case measure => simp [intOf]; omega
    · have hkn : k = n := by omega
      obtain ⟨W3, hW3⟩ : ∃ W3, W3 = wr := ⟨_, rfl⟩
      subst hW3
      have hA3 := ownsMap_below hown3 hnx (Nat.le_refl _)
      have hB3 : Below w.heap.size w W3 := hB.trans (hnx.mono hB.size)
      obtain ⟨m, hm⟩ : ∃ m : Nat, m = size (seens ks k) := ⟨_, rfl⟩
      have hm2 : m = size (seens ks n) := by rw [hm, hkn]
      rw [← hm]
      have HM2 : Hid (m = size (seens ks n)) := hm2
      clear hown he0 hnx hB hm hm2 hown3 hs0
      go_wp2_with fail
      refine (zzxattrs_any _ _ _ W3 hA3 (Nat.le_trans hA3.size_le (by omega))).mono ?_
      rintro e W4 ⟨v, Dout, rfl, hgot, hAg, hb4⟩
      obtain ⟨hE1, hE2⟩ := agreeX_end hAg (fun _ => rfl)
      have hsz : size Dout = m := (size_seens ks vs n (got_good hgot) hE1).trans HM2.out.symm
      have hB4 : Below w.heap.size w W4 := hB3.trans (hb4.mono hB3.size)
      obtain ⟨g, hq, hqg, hg⟩ := got_nil hgot
      rw [hsz] at hg
      have hng : ((m : Int) == 0) = g := by
        cases g
        · have h1 : m ≠ 0 := fun e => by have := hg.2 e; cases this
          simp [h1]
        · have h1 : m = 0 := hg.1 rfl
          simp [h1]
      have hlen1 : ∀ ty, (Builtin.len_ #[26] ty #[v]).run Trym.prog W4 = .ok (.int .i64 m) W4 := fun ty => by rw [← hsz]; exact got_len hgot ty
      clear hE1 hE2 hsz hB3 hA3 hg hAg hgot hb4 HM2 hkn
      go_wp2_with (first
        | (at_len; refine wpList_len_run _ rfl _ 26 rfl v _ rfl hlen1 ?_)
        | go_in)
      go_ret
      exact ⟨by simp, hB4⟩

end Go.Proofs.Qxb6001204aMods
