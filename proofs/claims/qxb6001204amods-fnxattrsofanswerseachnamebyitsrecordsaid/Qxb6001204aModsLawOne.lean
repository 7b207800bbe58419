/- The walk of FnXattrsOfAnswersEachNameByItsRecord (3). -/
import Derived.Test.Qxb6001204aModsWalkE
namespace Go.Proofs.Qxb6001204aMods
open Go.RowKit Go.WideMaps Go.Maps
set_option linter.unusedVariables false

theorem bytes_ext {a b : ByteArray} (h : a.data.toList = b.data.toList) : a = b := by
  rw [← Lib.mk_data a, ← Lib.mk_data b, h]

theorem dOf_inj {a b : ByteArray} (h : dOf a = dOf b) : a = b := by
  unfold dOf at h
  injection h with h
  injection h with h
  exact bytes_ext h

/-- 'v, ok := m[k]' on a map of strings -/
theorem own_look {w : World} {b n : Nat} {D : DataW Unit} (h : w.ownsMap Trym.prog 9 (plainElem Trym.prog 9) b n D) (s : ByteArray) (hs : s.size ≤ maxLen) :
    ∃ c : ByteArray, (Instr.lookup 26 (.map (some b)) (.string s) true).run Trym.prog w = .ok (.tuple #[.string c, .bool (has D (kOf s))]) w ∧ D.atKey (kOf s) (dOf ByteArray.empty) = dOf c ∧ c.size ≤ maxLen := by
  obtain ⟨v, ps, hrun, hv⟩ := h.look_ok law Trym.underlying26 (zero9 w) (plainElem_string Trym.underlying9 (Nat.zero_le _)) (keyOf_string_mk Trym.underlying9 hs)
  obtain ⟨c, rfl, hz, hc⟩ := plainElem_string_inv Trym.underlying9 hv
  exact ⟨c, hrun, congrArg Prod.fst hz, hc⟩

theorem got_look {base : Nat} {w : World} {v : Value} {n : Nat} {D : DataW Unit} (h : Got base w v n D) (s : ByteArray) (hs : s.size ≤ maxLen) :
    ∃ c : ByteArray, (Instr.lookup 26 v (.string s) true).run Trym.prog w = .ok (.tuple #[.string c, .bool (has D (kOf s))]) w ∧ D.atKey (kOf s) (dOf ByteArray.empty) = dOf c ∧ c.size ≤ maxLen := by
  rcases h with ⟨rfl, rfl⟩ | ⟨B, rfl, _, ho, _⟩
  · exact ⟨ByteArray.empty, Maps.look_nil true law Trym.underlying26 (zero9 w) (keyOf_string_mk Trym.underlying9 hs), rfl, Nat.zero_le _⟩
  · exact own_look ho s hs

theorem ownsMap_below {w w' : World} {b n m : Nat} {D : DataW Unit} (h : w.ownsMap Trym.prog 9 (plainElem Trym.prog 9) b n D) (hb : Below m w w') (hm : w.heap.size ≤ m) : w'.ownsMap Trym.prog 9 (plainElem Trym.prog 9) b n D := by
  have hlt := h.lt
  obtain ⟨es, clock, e, r⟩ := h
  exact ⟨es, clock, (hb.block b (by omega)).trans e, r⟩

set_option maxHeartbeats 1000000 in
theorem law1 (a : Option Addr) (len cap : Nat) (ks : List ByteArray) (a' : Option Addr) (len' cap' : Nat) (vs : List ByteArray) (nm : ByteArray) (w : World) (hl : len ≤ 9223372036854775807) (hc : StrsAt w a len ks) (hs : Short ks)
    (hl' : len' ≤ 9223372036854775807) (hc' : StrsAt w a' len' vs) (hs' : Short vs) (hn : nm.size ≤ maxLen) :
    Calls Trym.prog 3 #[.slice a len cap, .slice a' len' cap', .string nm] w fun e w' => e = .returned (.bool true) ∧ Below w.heap.size w w' := by
  go_enter Trym.func3, Trym.ntmps3
  go_wp2_with fail
  refine (bytes6_any a len cap ks a' len' cap' vs nm w hl hc hs hl' hc' hs' hn).mono ?_
  rintro e w' ⟨⟨t, rfl⟩, rfl⟩
  cases t
  · go_wp2
    go_ret
    exact ⟨rfl, Below.refl _ _⟩
  · by_cases hnm : nm.size ≤ 1048576
    · go_wp2_with fail
      refine (sliceBytes_any a len cap ks w hl hc hs).mono ?_
      rintro e w' ⟨⟨t1, rfl, h10, h11, _⟩, rfl⟩
      go_wp2_with fail
      refine (sliceBytes_any a' len' cap' vs w hl' hc' hs').mono ?_
      rintro e w' ⟨⟨t2, rfl, h20, h21, _⟩, rfl⟩
      by_cases hsum : t1 + t2 + nm.size ≤ 1048576
      · by_cases hk : len ≤ 4096
        · by_cases hv : len' ≤ 4096
          · go_wp2_with fail
            refine (clone_any a len cap ks w hk hc).mono ?_
            rintro e w1 ⟨a1, cap1, rfl, hc1, hb1⟩
            go_wp2_with fail
            refine (clone_any a' len' cap' vs w1 hv (hc'.below hb1 (Nat.le_refl _))).mono ?_
            rintro e w2 ⟨a2, cap2, rfl, hc2, hb2⟩
            go_wp2_with fail
            refine (records_any a1 len cap1 ks a2 len' cap2 vs w2 hk (hc1.below hb2 (Nat.le_refl _)) hs hv hc2 hs').mono ?_
            rintro e w3 ⟨rfl, hown3, hb3⟩
            go_wp2_with fail
            refine (zzxattrs_any _ _ _ w3 hown3 (Nat.le_trans hown3.size_le (by omega))).mono ?_
            rintro e w4 ⟨v, Dout, rfl, hgot, hA, hb4⟩
            have hown4 := ownsMap_below hown3 hb4 (Nat.le_refl _)
            have hB : Below w.heap.size w w4 := by
              have z1 := hb1.size
              have z2 := hb2.size
              have z3 := hb3.size
              exact ((hb1.trans (hb2.mono z1)).trans (hb3.mono (by omega))).trans (hb4.mono (by omega))
            generalize recs ks vs (min len len') = D0 at hown4 hA hgot
            obtain ⟨hE1, hE2⟩ := agreeX_end hA (fun _ => rfl)
            have hpn : (⟨#[83, 67, 72, 73, 76, 89, 46, 120, 97, 116, 116, 114, 46]⟩ ++ nm : ByteArray).size ≤ maxLen := by
              rw [ByteArray.size_append]
              have : (⟨#[83, 67, 72, 73, 76, 89, 46, 120, 97, 116, 116, 114, 46]⟩ : ByteArray).size = 13 := rfl
              rw [this]
              unfold maxLen
              omega
            have hkp : kOf (⟨#[83, 67, 72, 73, 76, 89, 46, 120, 97, 116, 116, 114, 46]⟩ ++ nm : ByteArray) = .string (PFX ++ nm.data.toList) := by
              unfold kOf PFX
              simp
            obtain ⟨c1, hl1, ha1, _⟩ := got_look hgot nm hn
            obtain ⟨c2, hl2, ha2, _⟩ := own_look hown4 _ hpn
            rw [hkp] at hl2 ha2
            have h12 : c1 = c2 := by
              apply dOf_inj
              rw [← ha1, ← ha2]
              exact hE2 _ _
            rw [show has Dout (kOf nm) = has D0 (.string (PFX ++ nm.data.toList)) from hE1 _] at hl1
            subst h12
            generalize has D0 (.string (PFX ++ nm.data.toList)) = okb at hl1 hl2
            clear ha1 ha2 hE1 hE2 hA hgot hown4 hown3 hkp hb1 hb2 hb3 hb4 hc hc' hc1 hc2 hs hs'
            go_wp2
            go_ret
            refine ⟨?_, hB⟩
            first
              | rfl
              | (show Ending.returned (.bool (c1.toList == c1.toList)) = _; simp)
          · go_wp2
            go_ret
            exact ⟨rfl, Below.refl _ _⟩
        · go_wp2
          go_ret
          exact ⟨rfl, Below.refl _ _⟩
      · go_wp2
        go_ret
        exact ⟨rfl, Below.refl _ _⟩
    · go_wp2
      go_ret
      exact ⟨rfl, Below.refl _ _⟩

end Go.Proofs.Qxb6001204aMods
