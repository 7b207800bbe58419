/- lastParts (34) and ZZlastParts (25) of seat b6001746aM. -/
import Derived.Test.Qxb6001746aModsWalkA
import Derived.Maps.AppendAt
import Derived.WalkSmall
namespace Go.Proofs.Qxb6001746aMods
open Go.RowKit Go.Sort
set_option linter.unusedVariables false

theorem Trym.info9 : (Trym.prog.info? 9).map (fun i => (i.zero, i.size, i.bytes)) = some (some (.string ByteArray.empty), 1, 16) := by kernel_rfl

theorem strsOf_eq (xs : List ByteArray) : Lib.strsOf (fun i => xs.getD i ByteArray.empty) xs.length = xs.map fun x => x.data.toList := by
  unfold Lib.strsOf
  refine List.ext_getElem (by simp) ?_
  intro i h1 h2
  have hi : i < xs.length := by simpa using h2
  simp [List.getElem_map, List.getElem?_eq_getElem hi]

theorem rev_map (xs : List ByteArray) : (Lib.strsOf (fun i => xs.getD i ByteArray.empty) xs.length).reverse.map encStr = xs.reverse.map Value.string := by
  rw [strsOf_eq, ← List.map_reverse, List.map_map]
  refine List.map_congr_left (fun x _ => ?_)
  show Value.string ⟨x.data.toList.toArray⟩ = _
  rw [Lib.mk_data]

theorem below_set {B g : Nat} {a : World} (hb : B ≤ g) : ∀ (vs : List Value) (o : Nat) (w : World), Below B a w → Below B a (w.setCells g o vs)
  | [], _, _, h => h
  | v :: r, o, w, h => below_set hb r (o + 1) _ (h.setCell (by exact hb) v)

/-- the row's cells behind the reversal -/
theorem rev_cells {w : World} {g : Nat} {xs : List ByteArray} (hc : ∀ j, j < xs.length → w.cell? ⟨g, 0 + j, none⟩ = some (.string (xs.getD j ByteArray.empty))) (q : Nat) :
    ∀ j, j < xs.length → ((w.drewN q).setCells g 0 ((Lib.strsOf (fun i => xs.getD i ByteArray.empty) xs.length).reverse.map encStr)).cell? ⟨g, j, none⟩ = some (.string (xs.reverse.getD j ByteArray.empty)) := by
  intro j hj
  rw [rev_map]
  have := World.cell?_setCells_in g (xs.reverse.map Value.string) 0 (w.drewN q) (fun i hi => by
    have hi' : i < xs.length := by simpa using hi
    show (w.cell? ⟨g, 0 + i, none⟩).isSome = true
    rw [hc i hi']; rfl) j (by simpa using hj)
  rw [Nat.zero_add] at this
  rw [this, List.getElem_map, List.getD, List.getElem?_eq_getElem (by simpa using hj)]
  rfl

/-- the measure: how long the string in a slot is -/
def lenIn : Value → Nat
  | .string s => s.size
  | _ => 0

theorem one_str (x : ByteArray) : ∀ u ∈ [Value.string x], u.oneCell' = true := fun u hu => by
  rw [List.mem_singleton.1 hu]; rfl

/-- a row that the call owns, not empty, taken apart -/
theorem own_slice {w : World} {B n : Nat} {v : Value} {xs : List ByteArray} (h : w.ownsRow B 9 1 v (n + 1) (xs.map Value.string)) :
    ∃ g cap, v = .slice (some ⟨g, 0, none⟩) (n + 1) cap ∧ B ≤ g ∧ g < w.heap.size ∧ (∀ j, j < xs.length → w.cell? ⟨g, 0 + j, none⟩ = some (.string (xs.getD j ByteArray.empty))) ∧ ∀ j, w.frozen? ⟨g, 0 + j, none⟩ = false := by
  have h' := h
  obtain ⟨hl, ⟨_, h0⟩ | ⟨g, cap, cur, rfl, hb, hh, _⟩⟩ := h
  · exact absurd h0 (by omega)
  · refine ⟨g, cap, rfl, hb, (Array.getElem?_eq_some_iff.1 hh).1, fun j hj => ?_, fun j => h'.frozenAt _⟩
    have hj2 : j < (n + 1) * 1 := by rw [← hl, List.length_map]; exact hj
    rw [Nat.zero_add, h'.cellAt j hj2, List.getElem?_map, List.getElem?_eq_getElem hj, List.getD, List.getElem?_eq_getElem hj]
    rfl

/-- what is left behind the reversal -/
theorem finish {w w3 : World} {g q : Nat} {s1 : ByteArray} {ts : List ByteArray} (hb : w.heap.size ≤ g) (hg : g < w3.heap.size) (hc : ∀ j, j < (ts ++ [s1]).length → w3.cell? ⟨g, 0 + j, none⟩ = some (.string ((ts ++ [s1]).getD j ByteArray.empty)))
    (hB : Below w.heap.size w w3) :
    g < ((w3.drewN q).setCells g 0 ((Lib.strsOf (fun i => (ts ++ [s1]).getD i ByteArray.empty) (ts.length + 1)).reverse.map encStr)).heap.size ∧
    (∀ j, j < ts.reverse.length + 1 → ((w3.drewN q).setCells g 0 ((Lib.strsOf (fun i => (ts ++ [s1]).getD i ByteArray.empty) (ts.length + 1)).reverse.map encStr)).cell? ⟨g, j, none⟩ = some (.string ((s1 :: ts.reverse).getD j ByteArray.empty))) ∧
    Below w.heap.size w ((w3.drewN q).setCells g 0 ((Lib.strsOf (fun i => (ts ++ [s1]).getD i ByteArray.empty) (ts.length + 1)).reverse.map encStr)) := by
  have el : (ts ++ [s1]).length = ts.length + 1 := by simp
  have h1 := rev_cells hc q
  rw [el] at h1
  have h2 := below_set hb ((Lib.strsOf (fun i => (ts ++ [s1]).getD i ByteArray.empty) (ts.length + 1)).reverse.map encStr) 0 (w3.drewN q) (below_drewN hB q)
  have h3 := below_set (B := 0) (Nat.zero_le g) ((Lib.strsOf (fun i => (ts ++ [s1]).getD i ByteArray.empty) (ts.length + 1)).reverse.map encStr) 0 (w3.drewN q) (a := w3) (below_drewN (Below.refl _ _) q)
  refine ⟨Nat.lt_of_lt_of_le hg h3.size, fun j hj => ?_, h2⟩
  rw [List.length_reverse] at hj
  have := h1 j hj
  rw [List.reverse_append, List.reverse_singleton, List.singleton_append] at this
  exact this

/-- strings.LastIndex, by the shelf -/
theorem lastIdx_any (s sep : ByteArray) (w : World) (i : Int) (h : s.size ≤ 524288) (hi : Lib.lastIndex s.data.toList sep.data.toList = i) :
    Calls Trym.prog 38 #[.string s, .string sep] w fun e w' => e = .returned (.int .i64 i) ∧ w = w' := by
  refine (Trym.strings_LastIndex s sep (by omega) w).mono ?_
  rintro e w' ⟨rfl, rfl⟩
  exact ⟨by rw [hi], rfl⟩

set_option maxHeartbeats 1000000 in
theorem lastParts_any (s sep : ByteArray) (limit : Int) (w : World) (h1 : s.size ≤ 524288) (h2 : sep.size ≤ 524288) (h3 : 0 < sep.size) (l1 : -9223372036854775808 ≤ limit) (l2 : limit ≤ 9223372036854775807) :
    Calls Trym.prog 34 #[.string s, .string sep, .int .i64 limit] w fun e w' => ∃ (g cap : Nat) (s1 : ByteArray) (ts : List ByteArray), e = .returned (.slice (some ⟨g, 0, none⟩) (ts.length + 1) cap) ∧ g < w'.heap.size ∧
      (∀ j, j < ts.length + 1 → w'.cell? ⟨g, j, none⟩ = some (.string ((s1 :: ts).getD j ByteArray.empty))) ∧ Parts s.data.toList sep.data.toList s1.data.toList (ts.map fun t => t.data.toList) limit ∧ Below w.heap.size w w' := by
  have hsep : sep.data.toList ≠ [] := by
    intro e
    have := Lib.size_eq sep
    rw [e, List.length_nil] at this
    omega
  obtain ⟨i0, hi, hz0, hz1, hz2⟩ := info_parts Trym.info9
  have HLIM : Hid (-9223372036854775808 ≤ limit ∧ limit ≤ 9223372036854775807) := ⟨l1, l2⟩
  clear l1 l2
  go_enter Trym.func34, Trym.ntmps34
  go_wp2
  go_loopw [0, 2, 7] (fun sv lv v wr => ∃ (L : Int) (s1 : ByteArray) (ts : List ByteArray), sv = .string s1 ∧ lv = .int .i64 L ∧ LimOK limit ts.length L ∧ wr.ownsRow w.heap.size 9 1 v ts.length (ts.map Value.string) ∧
      Inv s.data.toList sep.data.toList s1.data.toList (ts.map fun t => t.data.toList) limit ∧ Below w.heap.size w wr) (fun sv _ _ _ => lenIn sv)
  case atStart => exact ⟨limit, s, [], rfl, rfl, limOK_start limit HLIM.out.1 HLIM.out.2, World.ownsRow_nil _ _ _ _, inv_start _ _ _, Below.refl _ _⟩
  case round =>
    obtain ⟨L, s1, ts, rfl, rfl, hL, hown, hinv, hnx⟩ := hrel
    have hshort : ts.length + s1.size ≤ s.size := by
      have := hinv.short
      rw [List.length_map, ← Lib.size_eq, ← Lib.size_eq] at this
      exact this
    by_cases hz : L = 0
    · have hLb : (L != 0) = false := by rw [hz]; rfl
      have HP : Hid (Parts s.data.toList sep.data.toList s1.data.toList (ts.reverse.map fun t => t.data.toList) limit) := by
        show Parts _ _ _ _ _
        rw [List.map_reverse]
        exact parts_used hinv (by rw [List.length_map]; exact limOK_zero (by rw [← hz]; exact hL))
      clear hinv hL HLIM hsep hz
      go_wp2_with (first
        | (at_builtin; refine wpList_append_own _ rfl _ _ 32 rfl w.heap.size 9 i0 (.string ByteArray.empty) 1 16 Trym.underlying32 hi hz0 hz1 hz2 rfl (by decide) _ _ _ rfl (hown.alloc _) ⟨wr.heap.size, 0, none⟩ 1 1 [.string s1] rfl rfl (cell_one_new _ _ _) (one_str _) (by unfold maxLen; omega) (by omega) (by have := hnx.size; simp; omega) ?_; intro v' w3 hown3 hgrow3 hnil3))
      have hnx3 : Below w.heap.size w w3 := (hnx.alloc hnx.size _).grown hgrow3 (by have := hnx.size; simp; omega) (fun j hj => ((hown.alloc (.cells #[.string s1] 9)).lt j hj).1)
      rw [← List.map_singleton, ← List.map_append] at hown3
      obtain ⟨g, cap, rfl, hbg, hg, hcs, hfs⟩ := own_slice hown3
      have hel : (ts ++ [s1]).length = ts.length + 1 := by simp
      refine (Trym.slices_Reverse_string_cells g 0 (ts.length + 1) cap (fun i => (ts ++ [s1]).getD i ByteArray.empty) w3 (by omega) (fun j hj => hcs j (by omega)) (fun j _ => hfs j)).mono ?_
      rintro e w4 ⟨rfl, q, hw4⟩
      obtain ⟨f1, f2, f3⟩ := finish (q := q) hbg hg hcs hnx3
      rw [← hw4] at f1 f2 f3
      clear hw4 hcs hfs hnx3 hown3 hown hnx hgrow3 hnil3 hel
      go_wp2
      go_ret
      exact ⟨g, cap, s1, ts.reverse, by rw [List.length_reverse]; rfl, f1, f2, HP.out, f3⟩
    · have hLb : (L != 0) = true := by rw [bne_iff_ne]; exact hz
      rcases lastIndex_cases s1.data.toList sep.data.toList hsep with ⟨e, hn⟩ | ⟨i, e, hi2, hs2, hn⟩
      · have HE : Hid (Lib.lastIndex s1.data.toList sep.data.toList = -1) := e
        have HP : Hid (Parts s.data.toList sep.data.toList s1.data.toList (ts.reverse.map fun t => t.data.toList) limit) := by
          show Parts _ _ _ _ _
          rw [List.map_reverse]
          exact parts_none hinv hn
        clear hinv hL HLIM hsep hz e hn
        go_wp2_with (first
          | (go_at_call 38; refine (lastIdx_any s1 sep _ _ (by omega) HE.out).mono ?_; rintro e w' ⟨rfl, rfl⟩)
          | (at_builtin; refine wpList_append_own _ rfl _ _ 32 rfl w.heap.size 9 i0 (.string ByteArray.empty) 1 16 Trym.underlying32 hi hz0 hz1 hz2 rfl (by decide) _ _ _ rfl (hown.alloc _) ⟨wr.heap.size, 0, none⟩ 1 1 [.string s1] rfl rfl (cell_one_new _ _ _) (one_str _) (by unfold maxLen; omega) (by omega) (by have := hnx.size; simp; omega) ?_; intro v' w3 hown3 hgrow3 hnil3))
        have hnx3 : Below w.heap.size w w3 := (hnx.alloc hnx.size _).grown hgrow3 (by have := hnx.size; simp; omega) (fun j hj => ((hown.alloc (.cells #[.string s1] 9)).lt j hj).1)
        rw [← List.map_singleton, ← List.map_append] at hown3
        obtain ⟨g, cap, rfl, hbg, hg, hcs, hfs⟩ := own_slice hown3
        have hel : (ts ++ [s1]).length = ts.length + 1 := by simp
        refine (Trym.slices_Reverse_string_cells g 0 (ts.length + 1) cap (fun i => (ts ++ [s1]).getD i ByteArray.empty) w3 (by omega) (fun j hj => hcs j (by omega)) (fun j _ => hfs j)).mono ?_
        rintro e w4 ⟨rfl, q, hw4⟩
        obtain ⟨f1, f2, f3⟩ := finish (q := q) hbg hg hcs hnx3
        rw [← hw4] at f1 f2 f3
        clear hw4 hcs hfs hnx3 hown3 hown hnx hgrow3 hnil3 hel
        go_wp2
        go_ret
        exact ⟨g, cap, s1, ts.reverse, by rw [List.length_reverse]; rfl, f1, f2, HP.out, f3⟩
      · have HE : Hid (Lib.lastIndex s1.data.toList sep.data.toList = (i : Int)) := e
        clear e
        rw [← Lib.size_eq, ← Lib.size_eq] at hi2
        have HI := inv_step hinv hsep (fun hz' hh => hz (by have := hL.1 hz'; rw [List.length_map] at hh; omega)) (by rw [← Lib.size_eq, ← Lib.size_eq]; exact hi2) hs2 hn
        have HLS : Hid (LimOK limit (ts.length + 1) (wrap64 (L - 1))) := limOK_step hL hz (by omega) HLIM.out.1 HLIM.out.2
        have HII : Hid (Inv s.data.toList sep.data.toList (s1.extract 0 i).data.toList ((ts ++ [s1.extract (i + sep.size) s1.size]).map fun t => t.data.toList) limit) := by
          have e1 : (s1.extract 0 i).data.toList = s1.data.toList.take i := by rw [Lib.extract_data]; simp
          have e2 : (s1.extract (i + sep.size) s1.size).data.toList = s1.data.toList.drop (i + sep.data.toList.length) := by
            rw [Lib.extract_data, ← Lib.size_eq sep, List.take_of_length_le]
            rw [List.length_drop, ← Lib.size_eq]
            exact Nat.le_refl _
          show Inv _ _ _ _ _
          rw [List.map_append, List.map_singleton, e1, e2]
          exact HI
        clear HI hn hs2 hinv hL HLIM hsep hz
        go_wp2_with (first
          | (go_at_call 38; refine (lastIdx_any s1 sep _ _ (by omega) HE.out).mono ?_; rintro e w' ⟨rfl, rfl⟩)
          | (at_builtin; refine wpList_append_own _ rfl _ _ 32 rfl w.heap.size 9 i0 (.string ByteArray.empty) 1 16 Trym.underlying32 hi hz0 hz1 hz2 rfl (by decide) _ _ _ rfl (hown.alloc _) ⟨wr.heap.size, 0, none⟩ 1 1 [.string (s1.extract (i + sep.size) s1.size)] rfl rfl (cell_one_new _ _ _) (one_str _) (by unfold maxLen; omega) (by omega) (by have := hnx.size; simp; omega) ?_; intro v' w3 hown3 hgrow3 hnil3)
          | go_in)
        have hnx3 : Below w.heap.size w w3 := (hnx.alloc hnx.size _).grown hgrow3 (by have := hnx.size; simp; omega) (fun j hj => ((hown.alloc (.cells #[.string (s1.extract (i + sep.size) s1.size)] 9)).lt j hj).1)
        go_roundw
        case rel =>
          refine ⟨_, _, ts ++ [s1.extract (i + sep.size) s1.size], rfl, rfl, ?_, ?_, HII.out, hnx3⟩
          · rw [List.length_append]; exact HLS.out
          · rw [List.length_append, List.map_append]; exact hown3
        case measure =>
          show (s1.extract 0 i).size < s1.size
          rw [ByteArray.size_extract]
          omega

theorem zzlastParts_any (s sep : ByteArray) (limit : Int) (w : World) (h1 : s.size ≤ 524288) (h2 : sep.size ≤ 524288) (h3 : 0 < sep.size) (l1 : -9223372036854775808 ≤ limit) (l2 : limit ≤ 9223372036854775807) :
    Calls Trym.prog 25 #[.string s, .string sep, .int .i64 limit] w fun e w' => ∃ (g cap : Nat) (s1 : ByteArray) (ts : List ByteArray), e = .returned (.slice (some ⟨g, 0, none⟩) (ts.length + 1) cap) ∧ g < w'.heap.size ∧
      (∀ j, j < ts.length + 1 → w'.cell? ⟨g, j, none⟩ = some (.string ((s1 :: ts).getD j ByteArray.empty))) ∧ Parts s.data.toList sep.data.toList s1.data.toList (ts.map fun t => t.data.toList) limit ∧ Below w.heap.size w w' := by
  have HC := fun w => lastParts_any s sep limit w h1 h2 h3 l1 l2
  clear l1 l2
  go_enter Trym.func25, Trym.ntmps25
  go_wp2_with fail
  refine (HC w).mono ?_
  rintro e w' ⟨g, cap, s1, ts, rfl, f1, f2, f3, f4⟩
  have HF := f2
  have HF2 : Hid (∀ j, j < ts.length + 1 → w'.cell? ⟨g, j, none⟩ = some (.string ((s1 :: ts).getD j ByteArray.empty))) := f2
  clear f2 HF
  go_wp2
  go_ret
  exact ⟨g, cap, s1, ts, rfl, f1, HF2.out, f3, f4⟩

end Go.Proofs.Qxb6001746aMods
