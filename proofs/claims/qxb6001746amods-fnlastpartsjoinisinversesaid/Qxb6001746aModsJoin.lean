/- joinParts_jinjaB1 (26) and the walk of FnLastPartsJoinIsInverse (10). -/
import Derived.Test.Qxb6001746aModsTails
import Derived.Lib.AppendStr
import Derived.Lib.BufferRead
import Derived.Laws.IdiomStrings
namespace Go.Proofs.Qxb6001746aMods
open Go.RowKit
set_option linter.unusedVariables false

theorem Trym.info5 : (Trym.prog.info? 5).map (fun i => (i.zero, i.size, i.bytes)) = some (some (.int .u8 0), 1, 1) := by kernel_rfl

/-- the first k parts, joined -/
def jn (sep : List UInt8) (ps : List ByteArray) : Nat → List UInt8
  | 0 => []
  | k + 1 => jn sep ps k ++ ((if k = 0 then [] else sep) ++ (ps.getD k ByteArray.empty).data.toList)

theorem jn_mono (sep : List UInt8) (ps : List ByteArray) (k : Nat) : ∀ m, k ≤ m → (jn sep ps k).length ≤ (jn sep ps m).length
  | 0, h => by
    have : k = 0 := by omega
    subst this; exact Nat.le_refl _
  | m + 1, h => by
    by_cases e : k = m + 1
    · subst e; exact Nat.le_refl _
    · have := jn_mono sep ps k m (by omega)
      have e2 : jn sep ps (m + 1) = jn sep ps m ++ ((if m = 0 then [] else sep) ++ (ps.getD m ByteArray.empty).data.toList) := rfl
      rw [e2, List.length_append]
      omega

theorem jn_cons (sep : List UInt8) (s1 : ByteArray) (ts : List ByteArray) : ∀ k, k ≤ ts.length → jn sep (s1 :: ts) (k + 1) = s1.data.toList ++ ((ts.take k).map fun t => t.data.toList).flatMap fun t => sep ++ t
  | 0, _ => by simp [jn]
  | k + 1, h => by
    have ih := jn_cons sep s1 ts k (by omega)
    have hk : k < ts.length := by omega
    have e : (s1 :: ts).getD (k + 1) ByteArray.empty = ts[k] := by
      rw [List.getD, List.getElem?_cons_succ, List.getElem?_eq_getElem hk]; rfl
    rw [jn, ih, if_neg (by omega), e, List.take_succ_eq_append_getElem hk, List.map_append, List.flatMap_append, List.append_assoc]
    simp

/-- the whole join -/
theorem jn_all (sep : List UInt8) (s1 : ByteArray) (ts : List ByteArray) : jn sep (s1 :: ts) (ts.length + 1) = s1.data.toList ++ (ts.map fun t => t.data.toList).flatMap fun t => sep ++ t := by
  rw [jn_cons sep s1 ts ts.length (Nat.le_refl _), List.take_length]

/-- bytes as cells -/
def bc (l : List UInt8) : List Value := l.map fun b => Value.int .u8 b.toNat
theorem bc_str (s : ByteArray) : Lib.strCells s = bc s.data.toList := rfl
theorem bc_append (a b : List UInt8) : bc (a ++ b) = bc a ++ bc b := by unfold bc; rw [List.map_append]

/-- 'string(b)' of a slice that the call owns -/
theorem conv_own {w : World} {B : Nat} {v : Value} {l : List UInt8} (h : w.ownsRow B 5 1 v l.length (bc l)) : (convert 36 9 v).run Trym.prog w = .ok (.string ⟨l.toArray⟩) w := by
  have h' := h
  obtain ⟨hl, ⟨rfl, h0⟩ | ⟨g, cap, cur, rfl, hb, hh, _⟩⟩ := h
  · have : l = [] := List.eq_nil_of_length_eq_zero h0
    subst this
    exact Lib.run_convert_nil_bytes w 36 9 5 0 Trym.underlying36 Trym.underlying5 Trym.underlying9
  · refine run_convert_bytes_back w 36 9 5 ⟨g, 0, none⟩ cap l Trym.underlying36 Trym.underlying5 Trym.underlying9 (fun j hj => ?_)
    refine h'.cells rfl j _ ?_
    unfold bc
    rw [List.getElem?_map, List.getElem?_eq_getElem hj]
    rfl

set_option maxHeartbeats 1000000 in
theorem join_any (g n cap : Nat) (ps : List ByteArray) (sep : ByteArray) (w : World) (hn : n ≤ 1048576) (hg : g < w.heap.size) (hc : ∀ j, j < n → w.cell? ⟨g, j, none⟩ = some (.string (ps.getD j ByteArray.empty))) (hb : (jn sep.data.toList ps n).length ≤ 1048576) :
    Calls Trym.prog 26 #[.slice (some ⟨g, 0, none⟩) n cap, .string sep] w fun e w' => e = .returned (.string ⟨(jn sep.data.toList ps n).toArray⟩) ∧ Below w.heap.size w w' := by
  obtain ⟨i0, hi, hz0, hz1, hz2⟩ := info_parts Trym.info5
  go_enter Trym.func26, Trym.ntmps26
  go_wp2
  go_loopw [5, 6] (fun v i wr => ∃ k : Nat, k ≤ n ∧ i = .int .i64 k ∧ wr.ownsRow w.heap.size 5 1 v (jn sep.data.toList ps k).length (bc (jn sep.data.toList ps k)) ∧ Below w.heap.size w wr) (fun _ i _ => n - (intOf i).toNat)
  case atStart => exact ⟨0, Nat.zero_le _, rfl, World.ownsRow_nil _ _ _ _, Below.refl _ _⟩
  case round =>
    obtain ⟨k, hk, rfl, hown, hnx⟩ := hrel
    by_cases hlt : k < n
    · have hcx : wr.cell? ⟨g, k, none⟩ = some (.string (ps.getD k ByteArray.empty)) := (hnx.cell (by exact hg)).trans (hc k hlt)
      have hm := Nat.le_trans (jn_mono sep.data.toList ps (k + 1) n (by omega)) hb
      have hsz := hnx.size
      by_cases hk0 : k = 0
      · subst hk0
        have HJ : Hid (jn sep.data.toList ps (0 + 1) = (ps.getD 0 ByteArray.empty).data.toList) := by
          show jn _ _ _ = _
          simp [jn]
        rw [HJ.out, ← Lib.size_eq] at hm
        generalize ps.getD 0 ByteArray.empty = p at hcx HJ hm
        clear hc hb
        go_wp2_with (first
          | (at_builtin; refine Lib.wpList_append_own_string _ rfl _ _ 36 9 rfl w.heap.size 5 i0 Trym.underlying36 Trym.underlying9 hi hz0 hz1 hz2 _ _ _ rfl hown p rfl (by unfold maxLen; simp [jn]; omega) (by simp [jn]; omega) hsz ?_; intro v' w3 hown3 hgrow3 hnil3)
          | go_in)
        have hnx3 : Below w.heap.size w w3 := hnx.grown hgrow3 hsz (fun j hj => (hown.lt j hj).1)
        go_roundw
        case rel =>
          refine ⟨1, by omega, by go_num, ?_, hnx3⟩
          rw [show jn sep.data.toList ps 1 = p.data.toList from HJ.out, ← bc_str, ← Lib.size_eq]
          have := hown3
          simp [jn, bc] at this
          exact this
        case measure => simp [intOf]; omega
      · have hgt : (0 : Int) < (k : Int) := by omega
        have HJ : Hid (jn sep.data.toList ps (k + 1) = jn sep.data.toList ps k ++ (sep.data.toList ++ (ps.getD k ByteArray.empty).data.toList)) := by
          show jn sep.data.toList ps k ++ ((if k = 0 then [] else sep.data.toList) ++ (ps.getD k ByteArray.empty).data.toList) = _
          rw [if_neg hk0]
        rw [HJ.out, List.length_append, List.length_append, ← Lib.size_eq, ← Lib.size_eq] at hm
        generalize ps.getD k ByteArray.empty = p at hcx HJ hm
        generalize jn sep.data.toList ps k = l at hown HJ hm
        clear hc hb
        have tok1 : True := trivial
        go_wp2_with (first
          | (at_builtin; have _t := tok1; refine Lib.wpList_append_own_string _ rfl _ _ 36 9 rfl w.heap.size 5 i0 Trym.underlying36 Trym.underlying9 hi hz0 hz1 hz2 _ _ _ rfl hown sep rfl (by unfold maxLen; omega) (by omega) hsz ?_; intro v' w3 hown3 hgrow3 hnil3; clear tok1; have hnx3 : Below w.heap.size w w3 := hnx.grown hgrow3 hsz (fun j hj => (hown.lt j hj).1); have hcx3 : w3.cell? ⟨g, k, none⟩ = some (.string p) := by rw [hnx3.cell (by exact hg), ← hnx.cell (by exact hg)]; exact hcx)
          | (at_builtin; refine Lib.wpList_append_own_string _ rfl _ _ 36 9 rfl w.heap.size 5 i0 Trym.underlying36 Trym.underlying9 hi hz0 hz1 hz2 _ _ _ rfl hown3 p rfl (by unfold maxLen; omega) (by omega) hnx3.size ?_; intro v'' w4 hown4 hgrow4 hnil4)
          | go_in)
        have hnx4 : Below w.heap.size w w4 := hnx3.grown hgrow4 hnx3.size (fun j hj => (hown3.lt j hj).1)
        go_roundw
        case rel =>
          refine ⟨k + 1, by omega, by go_num, ?_, hnx4⟩
          rw [HJ.out, List.length_append, List.length_append, bc_append, bc_append, ← Lib.size_eq, ← Lib.size_eq, ← bc_str, ← bc_str, ← List.append_assoc, ← Nat.add_assoc]
          exact hown4
        case measure => simp [intOf]; omega
    · have hkn : k = n := by omega
      have hconv := conv_own (l := jn sep.data.toList ps k) hown
      rw [hkn] at hconv
      clear hc hb hown
      go_wp2
      go_ret
      exact ⟨rfl, hnx⟩

set_option maxHeartbeats 1000000 in
theorem joinInv (s sep : ByteArray) (limit : Int) (w : World) (h1 : s.size ≤ maxLen) (h2 : sep.size ≤ maxLen) (l1 : -9223372036854775808 ≤ limit) (l2 : limit ≤ 9223372036854775807) :
    Calls Trym.prog 10 #[.string s, .string sep, .int .i64 limit] w fun e w' => e = .returned (.bool true) ∧ Below w.heap.size w w' := by
  go_enter Trym.func10, Trym.ntmps10
  go_wp2_with fail
  refine (bytes24_any s sep limit w h1 h2).mono ?_
  rintro e w' ⟨⟨t, rfl⟩, rfl⟩
  unfold maxLen at h1 h2
  cases t
  · go_wp2
    go_ret
    exact ⟨rfl, Below.refl _ _⟩
  by_cases c1 : s.size ≤ 524288
  case neg =>
    go_wp2
    all_goals
      go_ret
      exact ⟨rfl, Below.refl _ _⟩
  by_cases c2 : sep.size ≤ 524288
  case neg =>
    go_wp2
    all_goals
      go_ret
      exact ⟨rfl, Below.refl _ _⟩
  by_cases c3 : sep.size = 0
  · have hE := isEmpty_true c3
    go_wp2
    all_goals
      go_ret
      exact ⟨rfl, Below.refl _ _⟩
  have hE := isEmpty_false (s := sep) (by omega)
  have HC := fun w => zzlastParts_any s sep limit w c1 c2 (by omega) l1 l2
  go_wp2_with fail
  refine (HC w).mono ?_
  rintro e w1 ⟨g, cap, s1, ts, rfl, hg, hcs, hP, hB⟩
  clear HC
  obtain ⟨hs1, hts⟩ := first_len hP
  have hj : jn sep.data.toList (s1 :: ts) (ts.length + 1) = s.data.toList := by rw [jn_all]; exact hP.glue.symm
  have HJN := join_any g (ts.length + 1) cap (s1 :: ts) sep w1 (by omega) hg hcs (by rw [hj, ← Lib.size_eq]; omega)
  rw [hj, Lib.mk_data] at HJN
  generalize ts.length = n at *
  clear hcs hP hE hj
  go_wp2_with fail
  refine HJN.mono ?_
  rintro e w2 ⟨rfl, hB2⟩
  go_wp2
  go_ret
  exact ⟨by simp, hB.trans (hB2.mono hB.size)⟩

end Go.Proofs.Qxb6001746aMods
