/- clampIndex (13), ZZclampIndex (9) and the walk of FnClampIndexNamesItemsFromEitherEnd (4). -/
import Derived.Test.Qxb6001716aModsProg
import Derived.WalkKit
namespace Go.Proofs.Qxb6001716aMods
open Go.RowKit
set_option linter.unusedVariables false

/-- what clampIndex answers for n >= 0 -/
def clampF (i n : Int) : Int := if i < 0 then (if i + n < 0 then 0 else i + n) else (if n < i then n else i)

theorem ret_int {k : IntKind} {a b : Int} (h : a = b) : Ending.returned (.int k a) = .returned (.int k b) := by rw [h]

theorem clamp_any (i n : Int) (w : World) (h : 0 ≤ n) (h2 : n ≤ 9223372036854775807) (h3 : -9223372036854775808 ≤ i) (h4 : i ≤ 9223372036854775807) :
    Calls Trym.prog 9 #[.int .i64 i, .int .i64 n] w fun e w' => e = .returned (.int .i64 (clampF i n)) ∧ w = w' := by
  obtain ⟨r, hr⟩ : ∃ r, r = clampF i n := ⟨_, rfl⟩
  rw [← hr]
  have HR : Hid (r = clampF i n) := hr
  clear hr
  by_cases c1 : i < 0
  · by_cases c2 : i + n < 0
    · go_enter Trym.func9, Trym.ntmps9
      go_wp2
      all_goals
        go_ret
        refine ⟨ret_int ?_, rfl⟩
        rw [HR.out]
        unfold clampF
        rw [if_pos c1, if_pos c2]
        all_goals omega
    · go_enter Trym.func9, Trym.ntmps9
      go_wp2
      all_goals
        go_ret
        refine ⟨ret_int ?_, rfl⟩
        rw [HR.out]
        unfold clampF
        rw [if_pos c1, if_neg (by omega)]
        all_goals omega
  · by_cases c2 : n < i
    · go_enter Trym.func9, Trym.ntmps9
      go_wp2
      all_goals
        go_ret
        refine ⟨ret_int ?_, rfl⟩
        rw [HR.out]
        unfold clampF
        rw [if_neg (by omega), if_pos c2]
        all_goals omega
    · go_enter Trym.func9, Trym.ntmps9
      go_wp2
      all_goals
        go_ret
        refine ⟨ret_int ?_, rfl⟩
        rw [HR.out]
        unfold clampF
        rw [if_neg (by omega), if_neg (by omega)]
        all_goals omega

theorem clamp_walk (i n : Int) (w : World) (i1 : -9223372036854775808 ≤ i) (i2 : i ≤ 9223372036854775807) (n1 : -9223372036854775808 ≤ n) (n2 : n ≤ 9223372036854775807) :
    Calls Trym.prog 4 #[.int .i64 i, .int .i64 n] w fun e w' => e = .returned (.bool true) ∧ w = w' := by
  by_cases c0 : n < 0
  · go_enter Trym.func4, Trym.ntmps4
    go_wp2
    go_ret
    exact ⟨rfl, rfl⟩
  have hn : 0 ≤ n := by omega
  by_cases c1 : n ≤ i
  · have e1 : clampF i n = n := by
      unfold clampF
      rw [if_neg (by omega)]
      by_cases h : n < i
      · rw [if_pos h]
      · rw [if_neg h]; omega
    go_enter Trym.func4, Trym.ntmps4
    go_wp2_with (go_at_call 9; refine (clamp_any _ _ _ hn n2 i1 i2).mono ?_; rw [e1]; rintro e w' ⟨rfl, rfl⟩)
    go_ret
    exact ⟨by simp, rfl⟩
  by_cases c2 : 0 ≤ i
  · have e1 : clampF i n = i := by
      unfold clampF
      rw [if_neg (by omega), if_neg (by omega)]
    go_enter Trym.func4, Trym.ntmps4
    go_wp2_with (go_at_call 9; refine (clamp_any _ _ _ hn n2 i1 i2).mono ?_; rw [e1]; rintro e w' ⟨rfl, rfl⟩)
    go_ret
    exact ⟨by simp, rfl⟩
  by_cases c3 : -n ≤ i
  · have e1 : clampF i n = n + i := by
      unfold clampF
      rw [if_pos (by omega), if_neg (by omega)]; omega
    have e2 : clampF (n + i) n = n + i := by
      unfold clampF
      rw [if_neg (by omega), if_neg (by omega)]
    have HE1 : Hid (clampF i n = n + i) := e1
    have HE2 : Hid (clampF (n + i) n = n + i) := e2
    clear e1 e2
    have tok : True := trivial
    go_enter Trym.func4, Trym.ntmps4
    go_wp2_with fail
    refine (clamp_any i n w hn n2 i1 i2).mono ?_
    rw [HE1.out]
    rintro e w' ⟨rfl, rfl⟩
    go_wp2_with (go_at_call 9; refine (clamp_any (n + i) n _ hn n2 (by omega) (by omega)).mono ?_; rw [HE2.out]; rintro e w' ⟨rfl, rfl⟩)
    go_ret
    exact ⟨by simp, rfl⟩
  · have e1 : clampF i n = 0 := by
      unfold clampF
      rw [if_pos (by omega), if_pos (by omega)]
    go_enter Trym.func4, Trym.ntmps4
    go_wp2_with (go_at_call 9; refine (clamp_any _ _ _ hn n2 i1 i2).mono ?_; rw [e1]; rintro e w' ⟨rfl, rfl⟩)
    go_ret
    exact ⟨by simp, rfl⟩

end Go.Proofs.Qxb6001716aMods
