/- The walks of finiteModest (10), absFloat (12), twoSum (14), ZZtwoSum (11). -/
import Derived.Test.Qxb6001716aModsProg
import Derived.Test.Qxb6001716aModsWordC
import Derived.WalkKit
namespace Go.Proofs.Qxb6001716aMods
open Go.RowKit
set_option linter.unusedVariables false

theorem run_add {x y r : Nat} (h : Ieee.double.add x y = some r) (w : World) : (binOp .add 25 (.float .f64 x) (.float .f64 y)).run Trym.prog w = .ok (.float .f64 r) w := by
  have h' : FloatKind.f64.format.add x y = some r := h
  simp [binOp, Op.floatArith, h']

theorem run_sub {x y r : Nat} (h : Ieee.double.sub x y = some r) (w : World) : (binOp .sub 25 (.float .f64 x) (.float .f64 y)).run Trym.prog w = .ok (.float .f64 r) w := by
  have h' : FloatKind.f64.format.sub x y = some r := h
  simp [binOp, Op.floatArith, h']

theorem run_eql (x y : Nat) (w : World) : (binOp .eql 25 (.float .f64 x) (.float .f64 y)).run Trym.prog w = .ok (.bool (Ieee.double.order x y == some .eq)) w := by
  simp [binOp, Op.floatCmp, FloatKind.format]

theorem run_neq (x y : Nat) (w : World) : (binOp .neq 25 (.float .f64 x) (.float .f64 y)).run Trym.prog w = .ok (.bool (Ieee.double.order x y != some .eq)) w := by
  simp [binOp, Op.floatCmp, FloatKind.format]

theorem run_lss (x y : Nat) (w : World) : (binOp .lss 25 (.float .f64 x) (.float .f64 y)).run Trym.prog w = .ok (.bool (Ieee.double.order x y == some .lt)) w := by
  simp [binOp, Op.floatCmp, FloatKind.format]

theorem run_gtr (x y : Nat) (w : World) : (binOp .gtr 25 (.float .f64 x) (.float .f64 y)).run Trym.prog w = .ok (.bool (Ieee.double.order x y == some .gt)) w := by
  simp [binOp, Op.floatCmp, FloatKind.format]

theorem run_geq (x y : Nat) (w : World) : (binOp .geq 25 (.float .f64 x) (.float .f64 y)).run Trym.prog w = .ok (.bool (Ieee.double.order x y == some .gt || Ieee.double.order x y == some .eq)) w := by
  simp [binOp, Op.floatCmp, FloatKind.format]

theorem run_leq (x y : Nat) (w : World) : (binOp .leq 25 (.float .f64 x) (.float .f64 y)).run Trym.prog w = .ok (.bool (Ieee.double.order x y == some .lt || Ieee.double.order x y == some .eq)) w := by
  simp [binOp, Op.floatCmp, FloatKind.format]

theorem run_neg (x : Nat) (w : World) : (Op.unary .neg (.float .f64 x)).run Trym.prog w = .ok (.float .f64 (x ^^^ 9223372036854775808)) w := by
  simp [Op.unary, Op.negFloat, FloatKind.format, Ieee.double]

/-- what finiteModest answers -/
def modB (x : Nat) : Bool :=
  (Ieee.double.order x x == some .eq) && (Ieee.double.order x 18424226075572699136 == some .gt || Ieee.double.order x 18424226075572699136 == some .eq) && (Ieee.double.order x 9200854038717923328 == some .lt || Ieee.double.order x 9200854038717923328 == some .eq)

theorem modB_word {x : Nat} (h : modB x = true) : ∃ v, Tws.Word x v ∧ v.natAbs ≤ 1 * 2 ^ Tws.E := by
  unfold modB at h
  simp only [Bool.and_eq_true, Bool.or_eq_true, beq_iff_eq] at h
  exact Tws.modest h.1.2 h.2

set_option maxHeartbeats 400000 in
theorem modest_any (x : Nat) (w : World) :
    Calls Trym.prog 10 #[.float .f64 x] w fun e w' => e = .returned (.bool (modB x)) ∧ w = w' := by
  have q1 : ∀ w : World, (binOp .eql 25 (.float .f64 x) (.float .f64 x)).run Trym.prog w = .ok (.bool (Ieee.double.order x x == some .eq)) w := run_eql x x
  have q2 : ∀ w : World, (binOp .geq 25 (.float .f64 x) (.float .f64 18424226075572699136)).run Trym.prog w = .ok (.bool (Ieee.double.order x 18424226075572699136 == some .gt || Ieee.double.order x 18424226075572699136 == some .eq)) w := run_geq x _
  have q3 : ∀ w : World, (binOp .leq 25 (.float .f64 x) (.float .f64 9200854038717923328)).run Trym.prog w = .ok (.bool (Ieee.double.order x 9200854038717923328 == some .lt || Ieee.double.order x 9200854038717923328 == some .eq)) w := run_leq x _
  unfold modB
  generalize (Ieee.double.order x x == some .eq) = b1 at *
  generalize (Ieee.double.order x 18424226075572699136 == some .gt || Ieee.double.order x 18424226075572699136 == some .eq) = b2 at *
  generalize (Ieee.double.order x 9200854038717923328 == some .lt || Ieee.double.order x 9200854038717923328 == some .eq) = b3 at *
  cases b1
  · go_enter Trym.func10, Trym.ntmps10
    go_wp2
    go_ret
    exact ⟨rfl, rfl⟩
  · cases b2
    · go_enter Trym.func10, Trym.ntmps10
      go_wp2
      go_ret
      exact ⟨rfl, rfl⟩
    · go_enter Trym.func10, Trym.ntmps10
      go_wp2
      go_ret
      exact ⟨rfl, rfl⟩

set_option maxHeartbeats 400000 in
theorem abs_any (x : Nat) (a : Int) (w : World) (hx : Tws.Word x a) :
    Calls Trym.prog 12 #[.float .f64 x] w fun e w' => ∃ z, e = .returned (.float .f64 z) ∧ Tws.Word z (a.natAbs : Int) ∧ w = w' := by
  have q1 : ∀ w : World, (binOp .lss 25 (.float .f64 x) (.float .f64 0)).run Trym.prog w = .ok (.bool (Ieee.double.order x 0 == some .lt)) w := run_lss x 0
  rw [Tws.word_order hx Tws.word_zero] at q1
  by_cases c : a < 0
  · rw [Int.compare_eq_lt.2 c] at q1
    have hn := Tws.word_neg hx
    have q2 := run_neg x
    have ea : -a = (a.natAbs : Int) := by omega
    rw [ea] at hn
    clear ea hx
    go_enter Trym.func12, Trym.ntmps12
    go_wp2
    go_ret
    exact ⟨_, rfl, hn, rfl⟩
  · have hb : (some (compare a 0) == some Ordering.lt) = false := by
      cases h : compare a 0
      · exact absurd (Int.compare_eq_lt.1 h) c
      · rfl
      · rfl
    rw [hb] at q1
    have ea : a = (a.natAbs : Int) := by omega
    have hn : Tws.Word x (a.natAbs : Int) := by rw [← ea]; exact hx
    clear ea hx hb
    go_enter Trym.func12, Trym.ntmps12
    go_wp2
    go_ret
    exact ⟨_, rfl, hn, rfl⟩

/-- a float is one cell -/
theorem store_float (a : Addr) (b : Nat) (w : World) : (store a (.float .f64 b)).run Trym.prog w = stored Trym.prog w a (.float .f64 b) .plain := run_store Trym.prog w a _ .plain rfl

set_option maxHeartbeats 400000 in
theorem two_any (x y s z d p q l : Nat) (w : World) (e1 : Ieee.double.add x y = some s) (e2 : Ieee.double.sub s x = some z) (e3 : Ieee.double.sub s z = some d) (e4 : Ieee.double.sub x d = some p) (e5 : Ieee.double.sub y z = some q) (e6 : Ieee.double.add p q = some l) :
    Calls Trym.prog 14 #[.float .f64 x, .float .f64 y] w fun e w' => e = .returned (.agg #[.float .f64 s, .float .f64 l]) ∧ Below w.heap.size w w' := by
  have h1 := run_add e1
  have h2 := run_sub e2
  have h3 := run_sub e3
  have h4 := run_sub e4
  have h5 := run_sub e5
  have h6 := run_add e6
  have h7 := store_float
  clear e1 e2 e3 e4 e5 e6
  go_enter Trym.func14, Trym.ntmps14
  go_wp2
  exact bodyPost_ret (v := .agg #[.float .f64 s, .float .f64 l]) (by simp [results, Trym.results14, go_sem]) rfl ⟨rfl, (Below.refl _ _).alloc (Nat.le_refl _) _⟩

set_option maxHeartbeats 400000 in
theorem zz_any (x y s z d p q l : Nat) (w : World) (e1 : Ieee.double.add x y = some s) (e2 : Ieee.double.sub s x = some z) (e3 : Ieee.double.sub s z = some d) (e4 : Ieee.double.sub x d = some p) (e5 : Ieee.double.sub y z = some q) (e6 : Ieee.double.add p q = some l) :
    Calls Trym.prog 11 #[.float .f64 x, .float .f64 y] w fun e w' => e = .returned (.tuple #[.float .f64 s, .float .f64 l]) ∧ Below w.heap.size w w' := by
  have HT := fun w => two_any x y s z d p q l w e1 e2 e3 e4 e5 e6
  have h7 := store_float
  clear e1 e2 e3 e4 e5 e6
  go_enter Trym.func11, Trym.ntmps11
  go_wp2_with (go_at_call 14; refine (HT _).mono ?_; rintro e w1 ⟨rfl, hb1⟩)
  go_region
  go_wp2
  go_ret2
  exact ⟨rfl, ((hb1.alloc hb1.size _).drew)⟩

end Go.Proofs.Qxb6001716aMods
