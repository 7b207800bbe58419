/- float64 words, on: the bounds of finiteModest; 2Sum and Fast2Sum on words. -/
import Derived.Test.Qxb6001716aModsWordB
namespace Go.Proofs.Qxb6001716aMods.Tws

theorem pow_E : 4503599627370496 * 2 ^ (E - 52) = 2 ^ E := by
  have h : E = 52 + (E - 52) := by have := E_eq; omega
  have h2 : 2 ^ E = 2 ^ 52 * 2 ^ (E - 52) := by rw [← Nat.pow_add, ← h]
  rw [h2]

/-- 0x1p1020 -/
theorem word_up : Word 9200854038717923328 ((2 ^ E : Nat) : Int) := by
  refine ⟨false, 4503599627370496, E - 52, ?_, ?_, ?_⟩
  · have h := read_word false 9200854038717923328 (by omega)
    rw [if_neg (by omega)] at h
    exact h
  · rw [pow_E]; rfl
  · rw [← pow_E]
    exact rep_sgn (neg := false) (by omega)

/-- -0x1p1020 -/
theorem word_down : Word 18424226075572699136 (-((2 ^ E : Nat) : Int)) := by
  have := word_neg word_up
  exact this

theorem word_zero : Word 0 0 := by
  refine ⟨false, 0, 0, ?_, rfl, rep_zero⟩
  have h := read_word false 0 (by omega)
  rw [if_pos (by omega)] at h
  exact h

/-- x is neither a NaN nor out of bounds -/
theorem modest {x : Nat} (h1 : Ieee.double.order x 18424226075572699136 = some .gt ∨ Ieee.double.order x 18424226075572699136 = some .eq) (h2 : Ieee.double.order x 9200854038717923328 = some .lt ∨ Ieee.double.order x 9200854038717923328 = some .eq) :
    ∃ v, Word x v ∧ v.natAbs ≤ 1 * 2 ^ E := by
  by_cases hr : x % 9223372036854775808 < 9218868437227405312
  · obtain ⟨v, hv⟩ := word_of_rung x hr
    refine ⟨v, hv, ?_⟩
    rw [word_order hv word_down] at h1
    rw [word_order hv word_up] at h2
    generalize 2 ^ E = B at *
    have g1 : -(B : Int) ≤ v := by
      rcases h1 with h | h
      · injection h with h; have := Int.compare_eq_gt.1 h; omega
      · injection h with h; have := Int.compare_eq_eq.1 h; omega
    have g2 : v ≤ B := by
      rcases h2 with h | h
      · injection h with h; have := Int.compare_eq_lt.1 h; omega
      · injection h with h; have := Int.compare_eq_eq.1 h; omega
    omega
  · exfalso
    obtain ⟨s1, m1, k1, e1, _⟩ := word_down
    obtain ⟨s2, m2, k2, e2, _⟩ := word_up
    have hc : ¬ x % 9223372036854775808 < 4503599627370496 := by omega
    have hx : (∃ s, Ieee.double.read x = .infinity s) ∨ ∃ s f, Ieee.double.read x = .nan s f := by
      unfold Ieee.Format.read
      rw [binade_eq, inf_eq, sign_eq, least_eq]
      dsimp only
      rw [if_neg hc, if_neg hr]
      split
      · exact Or.inl ⟨_, rfl⟩
      · exact Or.inr ⟨_, _, rfl⟩
    unfold Ieee.Format.order at h1 h2
    rcases hx with ⟨s, e⟩ | ⟨s, f, e⟩
    · rw [e, e1] at h1
      rw [e, e2] at h2
      cases s
      · rcases h2 with h | h <;> cases h
      · rcases h1 with h | h <;> cases h
    · rw [e] at h1
      rcases h1 with h | h <;> cases h

theorem Word.rep {x : Nat} {v : Int} (h : Word x v) : Rep v := by
  obtain ⟨_, _, _, _, _, hr⟩ := h
  exact hr

/-- what the error is at most -/
theorem err_le {n s : Int} (h : IsRn n s) : (n - s).natAbs ≤ s.natAbs := by
  have r2 : Rep (2 * s) := by
    obtain ⟨m, e, rfl, l, u⟩ := h.rep
    exact ⟨m, e + 1, by rw [Int.pow_succ, ← Int.mul_assoc m, Int.mul_comm (m * 2 ^ e) 2], l, u⟩
  have n1 := h.near _ r2
  have n2 := h.near _ rep_zero
  have n3 := h.near 1 ⟨1, 0, by simp, by omega, by omega⟩
  have n4 := h.near (-1) ⟨-1, 0, by simp, by omega, by omega⟩
  omega

/-- 2Sum on words: the high part is the rounded sum, the low part what it misses -/
theorem twoSum_words {x y : Nat} {a b : Int} (hx : Word x a) (hy : Word y b) (ha : a.natAbs ≤ 2 * 2 ^ E) (hb : b.natAbs ≤ 1 * 2 ^ E) (hab : (a + b).natAbs ≤ 2 * 2 ^ E) :
    ∃ s z d p q l, Ieee.double.add x y = some s ∧ Ieee.double.sub s x = some z ∧ Ieee.double.sub s z = some d ∧ Ieee.double.sub x d = some p ∧ Ieee.double.sub y z = some q ∧ Ieee.double.add p q = some l ∧
      Word s (rnd (a + b)) ∧ Word l (a + b - rnd (a + b)) := by
  have bs := rnd_le (a + b) 2 (by omega) hab
  obtain ⟨s, es, ws⟩ := word_add hx hy (by generalize 2 ^ E = B at *; omega)
  have bz := rnd_le (rnd (a + b) - a) 4 (by omega) (by generalize 2 ^ E = B at *; omega)
  obtain ⟨z, ez, wz⟩ := word_sub ws hx (by generalize 2 ^ E = B at *; omega)
  have bd := rnd_le (rnd (a + b) - rnd (rnd (a + b) - a)) 6 (by omega) (by generalize 2 ^ E = B at *; omega)
  obtain ⟨d, ed, wd⟩ := word_sub ws wz (by generalize 2 ^ E = B at *; omega)
  have bp := rnd_le (a - rnd (rnd (a + b) - rnd (rnd (a + b) - a))) 8 (by omega) (by generalize 2 ^ E = B at *; omega)
  obtain ⟨p, ep, wp⟩ := word_sub hx wd (by generalize 2 ^ E = B at *; omega)
  have bq := rnd_le (b - rnd (rnd (a + b) - a)) 5 (by omega) (by generalize 2 ^ E = B at *; omega)
  obtain ⟨q, eq, wq⟩ := word_sub hy wz (by generalize 2 ^ E = B at *; omega)
  obtain ⟨l, el, wl⟩ := word_add wp wq (by generalize 2 ^ E = B at *; omega)
  have hl := twoSum hx.rep hy.rep (rnd_is (a + b)) (rnd_is _) (rnd_is _) (rnd_is _) (rnd_is _) (rnd_is _)
  rw [hl] at wl
  exact ⟨s, z, d, p, q, l, es, ez, ed, ep, eq, el, ws, wl⟩

/-- Fast2Sum on words -/
theorem fast_words {x y : Nat} {a b : Int} (hx : Word x a) (hy : Word y b) (ha : a.natAbs ≤ 1 * 2 ^ E) (hb : b.natAbs ≤ 1 * 2 ^ E) (hab : b.natAbs ≤ a.natAbs) :
    ∃ s z e, Ieee.double.add x y = some s ∧ Ieee.double.sub s x = some z ∧ Ieee.double.sub y z = some e ∧ Word s (rnd (a + b)) ∧ Word e (a + b - rnd (a + b)) := by
  have bs := rnd_le (a + b) 2 (by omega) (by generalize 2 ^ E = B at *; omega)
  obtain ⟨s, es, ws⟩ := word_add hx hy (by generalize 2 ^ E = B at *; omega)
  have bz := rnd_le (rnd (a + b) - a) 3 (by omega) (by generalize 2 ^ E = B at *; omega)
  obtain ⟨z, ez, wz⟩ := word_sub ws hx (by generalize 2 ^ E = B at *; omega)
  obtain ⟨e, ee, we⟩ := word_sub hy wz (by generalize 2 ^ E = B at *; omega)
  have he := fast hx.rep hy.rep hab (rnd_is (a + b)) (rnd_is _) (rnd_is _)
  rw [he] at we
  exact ⟨s, z, e, es, ez, ee, ws, we⟩

theorem order_eq {x y : Nat} {a : Int} (hx : Word x a) (hy : Word y a) : Ieee.double.order x y = some .eq := by
  rw [word_order hx hy, Int.compare_eq_eq.2 rfl]

end Go.Proofs.Qxb6001716aMods.Tws
