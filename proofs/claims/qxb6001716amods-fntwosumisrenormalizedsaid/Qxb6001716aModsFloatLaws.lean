/- The walks of FnTwoSumIsRenormalized (6) and FnTwoSumAgreesWithFastTwoSum (7). -/
import Derived.Test.Qxb6001716aModsFloatWalk
namespace Go.Proofs.Qxb6001716aMods
open Go.RowKit
set_option linter.unusedVariables false

theorem eql_true {x y : Nat} {a : Int} (hx : Tws.Word x a) (hy : Tws.Word y a) (w : World) : (binOp .eql 25 (.float .f64 x) (.float .f64 y)).run Trym.prog w = .ok (.bool true) w := by
  rw [run_eql, Tws.order_eq hx hy]; rfl

theorem neq_false {x y : Nat} {a : Int} (hx : Tws.Word x a) (hy : Tws.Word y a) (w : World) : (binOp .neq 25 (.float .f64 x) (.float .f64 y)).run Trym.prog w = .ok (.bool false) w := by
  rw [run_neq, Tws.order_eq hx hy]; rfl

theorem gtr_false {x y : Nat} {a b : Int} (hx : Tws.Word x a) (hy : Tws.Word y b) (h : a ≤ b) (w : World) : (binOp .gtr 25 (.float .f64 x) (.float .f64 y)).run Trym.prog w = .ok (.bool false) w := by
  rw [run_gtr, Tws.word_order hx hy]
  have : (some (compare a b) == some Ordering.gt) = false := by
    cases hc : compare a b
    · rfl
    · rfl
    · have := Int.compare_eq_gt.1 hc; omega
  rw [this]

theorem lss_true {x y : Nat} {a b : Int} (hx : Tws.Word x a) (hy : Tws.Word y b) (h : a < b) (w : World) : (binOp .lss 25 (.float .f64 x) (.float .f64 y)).run Trym.prog w = .ok (.bool true) w := by
  rw [run_lss, Tws.word_order hx hy, Int.compare_eq_lt.2 h]; rfl

theorem lss_false {x y : Nat} {a b : Int} (hx : Tws.Word x a) (hy : Tws.Word y b) (h : ¬ a < b) (w : World) : (binOp .lss 25 (.float .f64 x) (.float .f64 y)).run Trym.prog w = .ok (.bool false) w := by
  rw [run_lss, Tws.word_order hx hy]
  have : (some (compare a b) == some Ordering.lt) = false := by
    cases hc : compare a b
    · have := Int.compare_eq_lt.1 hc; omega
    · rfl
    · rfl
  rw [this]

set_option maxHeartbeats 1000000 in
theorem renorm (x y : Nat) (w : World) :
    Calls Trym.prog 6 #[.float .f64 x, .float .f64 y] w fun e w' => e = .returned (.bool true) ∧ Below w.heap.size w w' := by
  cases hmx : modB x
  · have HX : Hid (modB x = false) := hmx
    clear hmx
    go_enter Trym.func6, Trym.ntmps6
    go_wp2_with fail
    refine (modest_any x w).mono ?_
    rw [HX.out]
    rintro e w' ⟨rfl, rfl⟩
    go_wp2
    go_ret
    exact ⟨rfl, Below.refl _ _⟩
  cases hmy : modB y
  · have HX : Hid (modB x = true) := hmx
    have HY : Hid (modB y = false) := hmy
    clear hmx hmy
    go_enter Trym.func6, Trym.ntmps6
    go_wp2_with fail
    refine (modest_any x w).mono ?_
    rw [HX.out]
    rintro e w' ⟨rfl, rfl⟩
    go_wp2_with fail
    refine (modest_any y w).mono ?_
    rw [HY.out]
    rintro e w' ⟨rfl, rfl⟩
    go_wp2
    go_ret
    exact ⟨rfl, Below.refl _ _⟩
  obtain ⟨a, hx, ba⟩ := modB_word hmx
  obtain ⟨b, hy, bb⟩ := modB_word hmy
  have HX : Hid (modB x = true) := hmx
  have HY : Hid (modB y = true) := hmy
  clear hmx hmy
  obtain ⟨s, z, d, p, q, l, e1, e2, e3, e4, e5, e6, ws, wl⟩ := Tws.twoSum_words hx hy (by generalize 2 ^ Tws.E = B at *; omega) bb (by generalize 2 ^ Tws.E = B at *; omega)
  -- the second time: of its own result
  have hrn := Tws.rnd_is (a + b)
  have hsum : Tws.rnd (a + b) + (a + b - Tws.rnd (a + b)) = a + b := by omega
  have bs := Tws.rnd_le (a + b) 2 (by omega) (by generalize 2 ^ Tws.E = B at *; omega)
  have bl : (a + b - Tws.rnd (a + b)).natAbs ≤ 1 * 2 ^ Tws.E := by
    have := hrn.near a hx.rep
    generalize 2 ^ Tws.E = B at *
    omega
  have hle := Tws.err_le hrn
  obtain ⟨s', z', d', p', q', l', f1, f2, f3, f4, f5, f6, ws', wl'⟩ := Tws.twoSum_words ws wl bs bl (by rw [hsum]; generalize 2 ^ Tws.E = B at *; omega)
  rw [hsum] at ws' wl'
  have HZ1 := fun w => zz_any x y s z d p q l w e1 e2 e3 e4 e5 e6
  have HZ2 := fun w => zz_any s l s' z' d' p' q' l' w f1 f2 f3 f4 f5 f6
  have r1 := run_add e1
  have r2 := run_add f1
  have t1 : ∀ w : World, (binOp .neq 25 (.float .f64 s) (.float .f64 s)).run Trym.prog w = .ok (.bool false) w := neq_false ws ws
  have t2 : ∀ w : World, (binOp .neq 25 (.float .f64 s') (.float .f64 s)).run Trym.prog w = .ok (.bool false) w := neq_false ws' ws
  have t3 : ∀ w : World, (binOp .eql 25 (.float .f64 s') (.float .f64 s)).run Trym.prog w = .ok (.bool true) w := eql_true ws' ws
  have t4 : ∀ w : World, (binOp .eql 25 (.float .f64 l') (.float .f64 l)).run Trym.prog w = .ok (.bool true) w := eql_true wl' wl
  have HA1 := fun w => abs_any l _ w wl
  have HA2 := fun w => abs_any s _ w ws
  have HG : Hid (∀ u v : Nat, Tws.Word u ((a + b - Tws.rnd (a + b)).natAbs : Int) → Tws.Word v ((Tws.rnd (a + b)).natAbs : Int) → ∀ w : World, (binOp .gtr 25 (.float .f64 u) (.float .f64 v)).run Trym.prog w = .ok (.bool false) w) := fun u v hu hv w => gtr_false hu hv (by omega) w
  clear e1 e2 e3 e4 e5 e6 f1 f2 f3 f4 f5 f6 hx hy ba bb bs bl hle hrn hsum ws wl ws' wl'
  go_enter Trym.func6, Trym.ntmps6
  go_wp2_with fail
  refine (modest_any x w).mono ?_
  rw [HX.out]
  rintro e w' ⟨rfl, rfl⟩
  go_wp2_with fail
  refine (modest_any y w).mono ?_
  rw [HY.out]
  rintro e w' ⟨rfl, rfl⟩
  go_wp2_with fail
  refine (HZ1 w).mono ?_
  rintro e w1 ⟨rfl, hb1⟩
  go_wp2_with fail
  refine (HA1 w1).mono ?_
  rintro e w' ⟨u, rfl, hu, rfl⟩
  go_wp2_with fail
  refine (HA2 w1).mono ?_
  rintro e w' ⟨v, rfl, hv, rfl⟩
  have t5 := HG.out u v hu hv
  clear hu hv
  go_wp2_with fail
  refine (HZ2 w1).mono ?_
  rintro e w2 ⟨rfl, hb2⟩
  go_wp2
  go_ret
  exact ⟨rfl, hb1.trans (hb2.mono hb1.size)⟩

set_option maxHeartbeats 1000000 in
theorem agrees (x y : Nat) (w : World) :
    Calls Trym.prog 7 #[.float .f64 x, .float .f64 y] w fun e w' => e = .returned (.bool true) ∧ Below w.heap.size w w' := by
  cases hmx : modB x
  · have HX : Hid (modB x = false) := hmx
    clear hmx
    go_enter Trym.func7, Trym.ntmps7
    go_wp2_with fail
    refine (modest_any x w).mono ?_
    rw [HX.out]
    rintro e w' ⟨rfl, rfl⟩
    go_wp2
    go_ret
    exact ⟨rfl, Below.refl _ _⟩
  cases hmy : modB y
  · have HX : Hid (modB x = true) := hmx
    have HY : Hid (modB y = false) := hmy
    clear hmx hmy
    go_enter Trym.func7, Trym.ntmps7
    go_wp2_with fail
    refine (modest_any x w).mono ?_
    rw [HX.out]
    rintro e w' ⟨rfl, rfl⟩
    go_wp2_with fail
    refine (modest_any y w).mono ?_
    rw [HY.out]
    rintro e w' ⟨rfl, rfl⟩
    go_wp2
    go_ret
    exact ⟨rfl, Below.refl _ _⟩
  obtain ⟨a, hx, ba⟩ := modB_word hmx
  obtain ⟨b, hy, bb⟩ := modB_word hmy
  have HX : Hid (modB x = true) := hmx
  have HY : Hid (modB y = true) := hmy
  clear hmx hmy
  obtain ⟨s, z, d, p, q, l, e1, e2, e3, e4, e5, e6, ws, wl⟩ := Tws.twoSum_words hx hy (by generalize 2 ^ Tws.E = B at *; omega) bb (by generalize 2 ^ Tws.E = B at *; omega)
  have HZ1 := fun w => zz_any x y s z d p q l w e1 e2 e3 e4 e5 e6
  have HA1 := fun w => abs_any x _ w hx
  have HA2 := fun w => abs_any y _ w hy
  by_cases hab : a.natAbs < b.natAbs
  · obtain ⟨s1, z1, l1, g1, g2, g3, ws1, wl1⟩ := Tws.fast_words hy hx bb ba (by omega)
    rw [Int.add_comm b a] at ws1 wl1
    have r1 := run_add g1
    have r2 := run_sub g2
    have r3 := run_sub g3
    have t3 : ∀ w : World, (binOp .eql 25 (.float .f64 s) (.float .f64 s1)).run Trym.prog w = .ok (.bool true) w := eql_true ws ws1
    have t4 : ∀ w : World, (binOp .eql 25 (.float .f64 l) (.float .f64 l1)).run Trym.prog w = .ok (.bool true) w := eql_true wl wl1
    have HG : Hid (∀ u v : Nat, Tws.Word u (a.natAbs : Int) → Tws.Word v (b.natAbs : Int) → ∀ w : World, (binOp .lss 25 (.float .f64 u) (.float .f64 v)).run Trym.prog w = .ok (.bool true) w) := fun u v hu hv w => lss_true hu hv (by omega) w
    clear e1 e2 e3 e4 e5 e6 g1 g2 g3 hx hy ba bb ws wl ws1 wl1 hab
    go_enter Trym.func7, Trym.ntmps7
    go_wp2_with fail
    refine (modest_any x w).mono ?_
    rw [HX.out]
    rintro e w' ⟨rfl, rfl⟩
    go_wp2_with fail
    refine (modest_any y w).mono ?_
    rw [HY.out]
    rintro e w' ⟨rfl, rfl⟩
    go_wp2_with fail
    refine (HA1 w).mono ?_
    rintro e w' ⟨u, rfl, hu, rfl⟩
    go_wp2_with fail
    refine (HA2 w).mono ?_
    rintro e w' ⟨v, rfl, hv, rfl⟩
    have t5 := HG.out u v hu hv
    clear hu hv
    go_wp2_with fail
    refine (HZ1 w).mono ?_
    rintro e w1 ⟨rfl, hb1⟩
    go_wp2
    go_ret
    exact ⟨rfl, hb1⟩
  · obtain ⟨s1, z1, l1, g1, g2, g3, ws1, wl1⟩ := Tws.fast_words hx hy ba bb (by omega)
    have r1 := run_add g1
    have r2 := run_sub g2
    have r3 := run_sub g3
    have t3 : ∀ w : World, (binOp .eql 25 (.float .f64 s) (.float .f64 s1)).run Trym.prog w = .ok (.bool true) w := eql_true ws ws1
    have t4 : ∀ w : World, (binOp .eql 25 (.float .f64 l) (.float .f64 l1)).run Trym.prog w = .ok (.bool true) w := eql_true wl wl1
    have HG : Hid (∀ u v : Nat, Tws.Word u (a.natAbs : Int) → Tws.Word v (b.natAbs : Int) → ∀ w : World, (binOp .lss 25 (.float .f64 u) (.float .f64 v)).run Trym.prog w = .ok (.bool false) w) := fun u v hu hv w => lss_false hu hv (by omega) w
    clear e1 e2 e3 e4 e5 e6 g1 g2 g3 hx hy ba bb ws wl ws1 wl1 hab
    go_enter Trym.func7, Trym.ntmps7
    go_wp2_with fail
    refine (modest_any x w).mono ?_
    rw [HX.out]
    rintro e w' ⟨rfl, rfl⟩
    go_wp2_with fail
    refine (modest_any y w).mono ?_
    rw [HY.out]
    rintro e w' ⟨rfl, rfl⟩
    go_wp2_with fail
    refine (HA1 w).mono ?_
    rintro e w' ⟨u, rfl, hu, rfl⟩
    go_wp2_with fail
    refine (HA2 w).mono ?_
    rintro e w' ⟨v, rfl, hv, rfl⟩
    have t5 := HG.out u v hu hv
    clear hu hv
    go_wp2_with fail
    refine (HZ1 w).mono ?_
    rintro e w1 ⟨rfl, hb1⟩
    go_wp2
    go_ret
    exact ⟨rfl, hb1⟩

end Go.Proofs.Qxb6001716aMods
