/- The walk of FnLastPartsTailsHoldNoSep (11). -/
import Derived.Test.Qxb6001746aModsWalkB
namespace Go.Proofs.Qxb6001746aMods
open Go.RowKit
set_option linter.unusedVariables false

theorem mem_len {sep t : List UInt8} : ∀ {ts : List (List UInt8)}, t ∈ ts → t.length ≤ (ts.flatMap fun t => sep ++ t).length
  | [], h => by cases h
  | u :: r, h => by
    rw [List.flatMap_cons, List.length_append, List.length_append]
    rcases List.mem_cons.1 h with e | h
    · subst e; omega
    · have := mem_len (sep := sep) h; omega

/-- every part is no longer than the whole, and holds no sep but perhaps the first -/
theorem part_at {s sep s1 : ByteArray} {ts : List ByteArray} {limit : Int} (h : Parts s.data.toList sep.data.toList s1.data.toList (ts.map fun t => t.data.toList) limit) (k : Nat) (h1 : 1 ≤ k) (h2 : k < ts.length + 1) :
    ((s1 :: ts).getD k ByteArray.empty).size ≤ s.size ∧ NoOcc ((s1 :: ts).getD k ByteArray.empty).data.toList sep.data.toList := by
  obtain ⟨j, rfl⟩ : ∃ j, k = j + 1 := ⟨k - 1, by omega⟩
  have hj : j < ts.length := by omega
  have e : (s1 :: ts).getD (j + 1) ByteArray.empty = ts[j] := by
    rw [List.getD, List.getElem?_cons_succ, List.getElem?_eq_getElem hj]; rfl
  rw [e]
  have hm : ts[j].data.toList ∈ ts.map fun t => t.data.toList := List.mem_map.2 ⟨_, List.getElem_mem hj, rfl⟩
  refine ⟨?_, h.tails _ hm⟩
  have := mem_len (sep := sep.data.toList) hm
  have hg := congrArg List.length h.glue
  rw [List.length_append, ← Lib.size_eq] at hg
  rw [← Lib.size_eq] at this
  omega

theorem first_len {s sep s1 : ByteArray} {ts : List ByteArray} {limit : Int} (h : Parts s.data.toList sep.data.toList s1.data.toList (ts.map fun t => t.data.toList) limit) : s1.size ≤ s.size ∧ ts.length ≤ s.size := by
  have := h.short
  rw [List.length_map, ← Lib.size_eq, ← Lib.size_eq] at this
  omega

theorem isEmpty_false {s : ByteArray} (h : 0 < s.size) : s.toList.isEmpty = false := by
  rw [Lib.toList_data]
  cases e : s.data.toList with
  | nil =>
    have := Lib.size_eq s
    rw [e, List.length_nil] at this
    omega
  | cons a t => rfl

theorem isEmpty_true {s : ByteArray} (h : s.size = 0) : s.toList.isEmpty = true := by
  rw [Lib.toList_data]
  cases e : s.data.toList with
  | nil => rfl
  | cons a t =>
    have := Lib.size_eq s
    rw [e, List.length_cons] at this
    omega

set_option maxHeartbeats 1000000 in
theorem tails (s sep : ByteArray) (limit : Int) (w : World) (h1 : s.size ≤ maxLen) (h2 : sep.size ≤ maxLen) (l1 : -9223372036854775808 ≤ limit) (l2 : limit ≤ 9223372036854775807) :
    Calls Trym.prog 11 #[.string s, .string sep, .int .i64 limit] w fun e w' => e = .returned (.bool true) ∧ Below w.heap.size w w' := by
  go_enter Trym.func11, Trym.ntmps11
  go_wp2_with fail
  refine (bytes27_any s sep limit w h1 h2).mono ?_
  rintro e w' ⟨⟨t, rfl⟩, rfl⟩
  unfold maxLen at h1 h2
  cases t
  · go_wp2
    go_ret
    exact ⟨rfl, Below.refl _ _⟩
  by_cases c1 : s.size ≤ 524288
  case neg =>
    go_wp2
    all_goals
      go_ret
      exact ⟨rfl, Below.refl _ _⟩
  by_cases c2 : sep.size ≤ 524288
  case neg =>
    go_wp2
    all_goals
      go_ret
      exact ⟨rfl, Below.refl _ _⟩
  by_cases c3 : sep.size = 0
  · have hE := isEmpty_true c3
    go_wp2
    all_goals
      go_ret
      exact ⟨rfl, Below.refl _ _⟩
  have hE := isEmpty_false (s := sep) (by omega)
  have HC := fun w => zzlastParts_any s sep limit w c1 c2 (by omega) l1 l2
  go_wp2_with fail
  refine (HC w).mono ?_
  rintro e w1 ⟨g, cap, s1, ts, rfl, hg, hcs, hP, hB⟩
  clear HC
  obtain ⟨hs1, hts⟩ := first_len hP
  have hfew := hP.few
  rw [List.length_map] at hfew
  have HPA : Hid (∀ k, 1 ≤ k → k < ts.length + 1 → ∃ t : ByteArray, w1.cell? ⟨g, k, none⟩ = some (.string t) ∧ t.size ≤ 1048576 ∧ NoOcc t.data.toList sep.data.toList) := fun k k1 k2 => by
    obtain ⟨q1, q2⟩ := part_at hP k k1 k2
    exact ⟨_, hcs k k2, by omega, q2⟩
  have HP0 : Hid (w1.cell? ⟨g, 0, none⟩ = some (.string s1)) := hcs 0 (by omega)
  have HF : Hid ((limit < 0 ∨ (ts.length : Int) < limit) → NoOcc s1.data.toList sep.data.toList) := by
    have := hP.first
    rw [List.length_map] at this
    exact this
  have HFEW : Hid (0 ≤ limit → (ts.length : Int) ≤ limit) := hfew
  generalize ts.length = n at *
  clear hcs hP hfew hE
  go_wp2
  go_loop [8] (fun i => ∃ k : Nat, 1 ≤ k ∧ k ≤ n + 1 ∧ i = .int .i64 k) (fun i => n + 1 - (intOf i).toNat)
  case atStart => exact ⟨1, by omega, by omega, rfl⟩
  case round =>
    obtain ⟨k, k1, k2, rfl⟩ := hrel
    by_cases hlt : k < n + 1
    · obtain ⟨t, hct, hts', hno⟩ := HPA.out k k1 hlt
      have HC := fun w => indexOf_none t sep w hts' (by omega) (by omega) hno
      clear HPA HP0 HF HFEW hno
      go_wp2_with (first
        | (go_at_call 19; refine (HC _).mono ?_; rintro e w' ⟨rfl, rfl⟩)
        | go_in)
      go_round
      case rel => exact ⟨k + 1, by omega, by omega, by go_num⟩
      case measure => simp [intOf]; omega
    · clear HPA
      have hc0 := HP0.out
      by_cases hl : limit < 0
      · have hno := HF.out (Or.inl hl)
        have HC := fun w => indexOf_none s1 sep w (by omega) (by omega) (by omega) hno
        clear HF HFEW HP0 hno
        go_wp2_with (first
          | (go_at_call 19; refine (HC _).mono ?_; rintro e w' ⟨rfl, rfl⟩)
          | go_in)
        go_ret
        exact ⟨rfl, hB⟩
      · have hle := HFEW.out (by omega)
        by_cases hl2 : (n : Int) < limit
        · have hno := HF.out (Or.inr hl2)
          have HC := fun w => indexOf_none s1 sep w (by omega) (by omega) (by omega) hno
          clear HF HFEW HP0 hno
          go_wp2_with (first
            | (go_at_call 19; refine (HC _).mono ?_; rintro e w' ⟨rfl, rfl⟩)
            | go_in)
          go_ret
          exact ⟨rfl, hB⟩
        · clear HF HFEW HP0
          go_wp2
          go_ret
          exact ⟨rfl, hB⟩

end Go.Proofs.Qxb6001746aMods
