/- float64 words as whole numbers of units 2^-1074: what the model's add, sub, order and negation do on them. -/
import Derived.Test.Qxb6001716aModsRound
import Ieee.Arith
namespace Go.Proofs.Qxb6001716aMods.Tws

theorem binade_eq : Ieee.double.binade = 4503599627370496 := by decide
theorem inf_eq : Ieee.double.infRung = 9218868437227405312 := by decide
theorem sign_eq : Ieee.double.signWeight = 9223372036854775808 := by decide
theorem least_eq : Ieee.double.leastPlace = -1074 := by decide
theorem frac_eq : Ieee.double.fractionBits = 52 := rfl

/-- the signed number of units -/
def sgn (neg : Bool) (N : Nat) : Int := if neg then -(N : Int) else (N : Int)

theorem signed_eq (neg : Bool) (m k : Nat) : Ieee.signed neg m k = sgn neg (m * 2 ^ k) := by
  unfold Ieee.signed sgn
  rw [Nat.shiftLeft_eq]

/-- the word x stands for v units -/
def Word (x : Nat) (v : Int) : Prop := ∃ (neg : Bool) (m k : Nat), Ieee.double.read x = .number neg m (-1074 + k) ∧ v = sgn neg (m * 2 ^ k) ∧ Rep v

theorem rep_sgn {neg : Bool} {m k : Nat} (h : m ≤ 9007199254740992) : Rep (sgn neg (m * 2 ^ k)) := by
  unfold sgn
  cases neg
  · exact ⟨m, k, by simp, by omega, by omega⟩
  · exact ⟨-m, k, by rw [Int.neg_mul]; simp, by omega, by omega⟩

/-- every word whose rung lies below infinity's stands for a number -/
theorem word_of_rung (x : Nat) (h : x % 9223372036854775808 < 9218868437227405312) : ∃ v, Word x v := by
  by_cases c : x % 9223372036854775808 < 4503599627370496
  · refine ⟨sgn (x / 9223372036854775808 % 2 == 1) (x % 9223372036854775808 * 2 ^ 0), _, _, 0, ?_, rfl, rep_sgn (by omega)⟩
    unfold Ieee.Format.read
    rw [binade_eq, inf_eq, sign_eq, least_eq]
    dsimp only
    rw [if_pos c]
    rfl
  · refine ⟨sgn (x / 9223372036854775808 % 2 == 1) ((4503599627370496 + x % 9223372036854775808 % 4503599627370496) * 2 ^ (x % 9223372036854775808 / 4503599627370496 - 1)), _, _, _, ?_, rfl, rep_sgn (by omega)⟩
    unfold Ieee.Format.read
    rw [binade_eq, inf_eq, sign_eq, least_eq]
    dsimp only
    rw [if_neg c, if_pos h]

theorem sgn_mul (neg : Bool) (N c : Nat) : sgn neg (N * c) = sgn neg N * c := by
  unfold sgn
  cases neg
  · simp
  · simp only [if_true]
    rw [Int.neg_mul]; simp

theorem cmp_mul (a b : Int) (P : Nat) (h : 0 < P) : compare (a * P) (b * P) = compare a b := by
  have hP : (0 : Int) < P := by omega
  by_cases h1 : a < b
  · rw [Int.compare_eq_lt.2 h1, Int.compare_eq_lt.2 (Int.mul_lt_mul_of_pos_right h1 hP)]
  · by_cases h2 : a = b
    · subst h2
      rw [Int.compare_eq_eq.2 rfl, Int.compare_eq_eq.2 rfl]
    · have h3 : b < a := by omega
      rw [Int.compare_eq_gt.2 h3, Int.compare_eq_gt.2 (Int.mul_lt_mul_of_pos_right h3 hP)]

theorem split_pow (m k c : Nat) (h : c ≤ k) : m * 2 ^ k = m * 2 ^ (k - c) * 2 ^ c := by
  rw [Nat.mul_assoc, ← Nat.pow_add]
  congr 2; omega

theorem word_order {x y : Nat} {a b : Int} (hx : Word x a) (hy : Word y b) : Ieee.double.order x y = some (compare a b) := by
  obtain ⟨s, m, k, ex, ea, _⟩ := hx
  obtain ⟨t, n, l, ey, eb, _⟩ := hy
  unfold Ieee.Format.order
  rw [ex, ey]
  show some (compare (Ieee.signed s m ((-1074 + (k : Int)) - min (-1074 + (k : Int)) (-1074 + (l : Int))).toNat) (Ieee.signed t n ((-1074 + (l : Int)) - min (-1074 + (k : Int)) (-1074 + (l : Int))).toNat)) = _
  have e1 : ((-1074 + (k : Int)) - min (-1074 + (k : Int)) (-1074 + (l : Int))).toNat = k - min k l := by omega
  have e2 : ((-1074 + (l : Int)) - min (-1074 + (k : Int)) (-1074 + (l : Int))).toNat = l - min k l := by omega
  rw [e1, e2, signed_eq, signed_eq, ea, eb, split_pow m k (min k l) (by omega), split_pow n l (min k l) (by omega), sgn_mul s _ (2 ^ min k l), sgn_mul t _ (2 ^ min k l)]
  rw [cmp_mul _ _ _ (npow_pos _)]

theorem word_neg {x : Nat} {a : Int} (hx : Word x a) : Word (x ^^^ 9223372036854775808) (-a) := by
  obtain ⟨s, m, k, ex, ea, hr⟩ := hx
  refine ⟨!s, m, k, ?_, ?_, hr.neg⟩
  · have h1 : (x ^^^ 9223372036854775808) % 9223372036854775808 = x % 9223372036854775808 := by
      have := Nat.xor_mod_two_pow (a := x) (b := 2 ^ 63) (n := 63)
      simpa using this
    have h2 : ((x ^^^ 9223372036854775808) / 9223372036854775808 % 2 == 1) = !(x / 9223372036854775808 % 2 == 1) := by
      have h3 := Nat.xor_div_two_pow (a := x) (b := 2 ^ 63) (n := 63)
      have h4 := Nat.xor_mod_two_pow (a := x / 2 ^ 63) (b := 1) (n := 1)
      have h5 : (2 ^ 63 : Nat) / 2 ^ 63 = 1 := by decide
      rw [h5] at h3
      have h6 : (x ^^^ 2 ^ 63) / 2 ^ 63 % 2 = (x / 2 ^ 63 % 2) ^^^ 1 := by
        rw [h3]; simpa using h4
      show ((x ^^^ 2 ^ 63) / 2 ^ 63 % 2 == 1) = !(x / 2 ^ 63 % 2 == 1)
      rw [h6]
      have : x / 2 ^ 63 % 2 = 0 ∨ x / 2 ^ 63 % 2 = 1 := by omega
      rcases this with e | e <;> rw [e] <;> rfl
    have ex' := ex
    unfold Ieee.Format.read at ex' ⊢
    rw [binade_eq, inf_eq, sign_eq, least_eq] at ex' ⊢
    dsimp only at ex' ⊢
    rw [h1, h2]
    by_cases c : x % 9223372036854775808 < 4503599627370496
    · rw [if_pos c] at ex' ⊢
      injection ex' with e1 e2 e3
      rw [e1, e2, ← e3]
    · rw [if_neg c] at ex' ⊢
      by_cases d : x % 9223372036854775808 < 9218868437227405312
      · rw [if_pos d] at ex' ⊢
        injection ex' with e1 e2 e3
        rw [e1, e2, e3]
      · rw [if_neg d] at ex'
        split at ex' <;> cases ex'
  · rw [ea]
    unfold sgn
    cases s <;> simp

end Go.Proofs.Qxb6001716aMods.Tws
