/- float64 words, on: a sum or a difference of two words is the word of the rounded sum of their units. -/
import Derived.Test.Qxb6001716aModsWord
namespace Go.Proofs.Qxb6001716aMods.Tws

/-- 2^1020 is 2^E units -/
def E : Nat := 2094
theorem E_eq : E = 2094 := rfl

theorem log2_mul_pow (m k : Nat) (hm : m ≠ 0) : (m * 2 ^ k).log2 = m.log2 + k := by
  have h0 : m * 2 ^ k ≠ 0 := Nat.mul_ne_zero hm (by have := npow_pos k; omega)
  rw [Nat.log2_eq_iff h0]
  refine ⟨?_, ?_⟩
  · rw [Nat.pow_add]
    exact Nat.mul_le_mul_right _ (Nat.log2_self_le hm)
  · rw [show m.log2 + k + 1 = (m.log2 + 1) + k by omega, Nat.pow_add]
    exact Nat.mul_lt_mul_of_pos_right Nat.lt_log2_self (npow_pos k)

/-- the model's cut, at the place that rounding keeps -/
theorem cut_eq (neg : Bool) (m k L : Nat) (hm : m ≠ 0) (hL : L = lastN (m * 2 ^ k)) : Ieee.Toward.even.cut neg (m <<< (k - L)) (L - k) = cutN (m * 2 ^ k) L := by
  have hlog := log2_mul_pow m k hm
  have hL' : L = m.log2 + k - 52 := by rw [hL]; unfold lastN; rw [hlog]
  unfold Ieee.Toward.cut cutN
  dsimp only
  rw [Nat.shiftLeft_eq m]
  by_cases c : L ≤ k
  · have e1 : L - k = 0 := by omega
    have e2 : m * 2 ^ k = m * 2 ^ (k - L) * 2 ^ L := split_pow m k L c
    rw [e1, e2, Nat.mul_div_cancel _ (npow_pos L), Nat.mul_mod_left]
    have p := npow_pos L
    have hz : (2 ^ L == 0) = false := by rw [beq_eq_false_iff_ne]; omega
    simp [Nat.mod_one, hz]
  · have e1 : k - L = 0 := by omega
    have e2 : min (L - k) (m.log2 + 2) = L - k := by omega
    have e3 : 2 ^ L = 2 ^ (L - k) * 2 ^ k := by rw [← Nat.pow_add]; congr 1; omega
    have p := npow_pos k
    rw [e1, Nat.pow_zero, Nat.mul_one, e2, Nat.one_shiftLeft, e3, Nat.mul_div_mul_right _ _ p, Nat.mul_mod_mul_right]
    generalize 2 ^ (L - k) = G
    generalize m % G = r
    generalize m / G = q
    have h1 : decide (G * 2 ^ k < 2 * (r * 2 ^ k)) = decide (G < 2 * r) := by
      rw [← Nat.mul_assoc]
      exact decide_eq_decide.2 (Nat.mul_lt_mul_right p)
    have h2 : (G * 2 ^ k == 2 * (r * 2 ^ k)) = (G == 2 * r) := by
      rw [← Nat.mul_assoc, Bool.eq_iff_iff]
      simp only [beq_iff_eq]
      exact ⟨fun h => Nat.eq_of_mul_eq_mul_right p h, fun h => by rw [h]⟩
    rw [h1, h2]

theorem read_word (neg : Bool) (r : Nat) (h : r < 9218868437227405312) :
    Ieee.double.read (Ieee.double.word neg r) = if r < 4503599627370496 then .number neg r (-1074) else .number neg (4503599627370496 + r % 4503599627370496) (-1074 + ((r / 4503599627370496 - 1 : Nat) : Int)) := by
  unfold Ieee.Format.read Ieee.Format.word
  rw [binade_eq, inf_eq, sign_eq, least_eq]
  dsimp only
  have e1 : (if neg = true then 9223372036854775808 + r else r) % 9223372036854775808 = r := by
    cases neg <;> simp <;> omega
  have e2 : ((if neg = true then 9223372036854775808 + r else r) / 9223372036854775808 % 2 == 1) = neg := by
    cases neg
    · have : r / 9223372036854775808 = 0 := by omega
      simp [this]
    · have : (9223372036854775808 + r) / 9223372036854775808 = 1 := by omega
      simp [this]
  rw [e1, e2, if_pos h]

theorem rung_val (L kept : Nat) (hk : kept ≤ 9007199254740992) (h0 : L = 0 → kept < 9007199254740992) (h1 : L ≠ 0 → 4503599627370496 ≤ kept) (h : ¬ L * 4503599627370496 + kept < 4503599627370496) :
    (4503599627370496 + (L * 4503599627370496 + kept) % 4503599627370496) * 2 ^ ((L * 4503599627370496 + kept) / 4503599627370496 - 1) = kept * 2 ^ L := by
  by_cases c : kept < 9007199254740992
  · have hk2 : 4503599627370496 ≤ kept := by
      by_cases e : L = 0
      · subst e; omega
      · exact h1 e
    have e1 : (L * 4503599627370496 + kept) % 4503599627370496 = kept - 4503599627370496 := by omega
    have e2 : (L * 4503599627370496 + kept) / 4503599627370496 - 1 = L := by omega
    rw [e1, e2, show 4503599627370496 + (kept - 4503599627370496) = kept by omega]
  · have e0 : kept = 9007199254740992 := by omega
    subst e0
    have e1 : (L * 4503599627370496 + 9007199254740992) % 4503599627370496 = 0 := by omega
    have e2 : (L * 4503599627370496 + 9007199254740992) / 4503599627370496 - 1 = L + 1 := by omega
    rw [e1, e2, Nat.pow_succ]
    omega

theorem sgn_zero (neg : Bool) : sgn neg 0 = 0 := by
  unfold sgn
  cases neg <;> simp

theorem rndN_zero : rndN 0 = 0 := by
  unfold rndN cutN
  simp

theorem rung_lt (N : Nat) (h : rndN N < 2 ^ (E + 4)) : lastN N * 4503599627370496 + cutN N (lastN N) < 9218868437227405312 := by
  have hk := cutN_le N
  by_cases e : lastN N = 0
  · rw [e] at hk ⊢
    omega
  · have h1 := cutN_ge N e
    unfold rndN at h
    generalize hL : lastN N = L at *
    generalize cutN N L = kept at *
    have h2 : 2 ^ (52 + L) ≤ kept * 2 ^ L := by
      rw [Nat.pow_add]; exact Nat.mul_le_mul_right _ h1
    have hE := E_eq
    have h3 : 52 + L < E + 4 := by
      rw [← Nat.pow_lt_pow_iff_right (a := 2) (by omega)]
      exact Nat.lt_of_le_of_lt h2 h
    by_cases c : L = 2045
    · have h4 : kept < 2 ^ 53 := by
        refine Nat.lt_of_mul_lt_mul_right (a := 2 ^ L) ?_
        rw [← Nat.pow_add, show 53 + L = E + 4 by omega]
        exact h
      omega
    · omega

/-- the nearest word stands for the rounded number -/
theorem nearest_word (neg : Bool) (m k : Nat) (h : rndN (m * 2 ^ k) < 2 ^ (E + 4)) : Word (Ieee.double.nearest neg m (-1074 + k)) (sgn neg (rndN (m * 2 ^ k))) := by
  by_cases hm : m = 0
  · subst hm
    rw [Nat.zero_mul, rndN_zero, sgn_zero]
    refine ⟨neg, 0, 0, ?_, by simp [sgn_zero], rep_zero⟩
    unfold Ieee.Format.nearest
    rw [if_pos rfl, read_word neg 0 (by omega)]
    rfl
  · have hlog := log2_mul_pow m k hm
    obtain ⟨L, hL⟩ : ∃ L, L = lastN (m * 2 ^ k) := ⟨_, rfl⟩
    have hL' : L = m.log2 + k - 52 := by rw [hL]; unfold lastN; rw [hlog]
    have hr := rung_lt _ h
    rw [← hL] at hr
    have e1 : max (-1074 + (k : Int) + (m.log2 : Int) - ((52 : Nat) : Int)) (-1074) = -1074 + (L : Int) := by omega
    have ew : Ieee.double.nearest neg m (-1074 + k) = Ieee.double.word neg (L * 4503599627370496 + cutN (m * 2 ^ k) L) := by
      unfold Ieee.Format.nearest
      rw [if_neg hm]
      dsimp only
      rw [frac_eq, least_eq, e1, binade_eq, inf_eq]
      have e2 : ((-1074 + (k : Int)) - (-1074 + (L : Int))).toNat = k - L := by omega
      have e3 : ((-1074 + (L : Int)) - (-1074 + (k : Int))).toNat = L - k := by omega
      have e4 : ((-1074 + (L : Int)) - -1074).toNat = L := by omega
      rw [e2, e3, e4, cut_eq neg m k L hm hL, Nat.min_eq_left (Nat.le_of_lt hr)]
    rw [ew]
    have hk := cutN_le (m * 2 ^ k)
    have hhi := lastN_hi (m * 2 ^ k)
    have h0 : L = 0 → cutN (m * 2 ^ k) L < 9007199254740992 := by
      intro e
      have : cutN (m * 2 ^ k) 0 = m * 2 ^ k := by
        unfold cutN
        simp [Nat.mod_one]
      rw [← hL, e] at hhi
      rw [e, this]
      exact hhi
    have h1 : L ≠ 0 → 4503599627370496 ≤ cutN (m * 2 ^ k) L := by
      intro e
      have := cutN_ge (m * 2 ^ k) (by rw [← hL]; exact e)
      rw [← hL] at this
      exact this
    have hv : rndN (m * 2 ^ k) = cutN (m * 2 ^ k) L * 2 ^ L := by unfold rndN; rw [← hL]
    rw [← hL] at hk
    rw [hv]
    generalize cutN (m * 2 ^ k) L = kept at *
    have hread := read_word neg _ hr
    by_cases c : L * 4503599627370496 + kept < 4503599627370496
    · have eL : L = 0 := by omega
      subst eL
      rw [if_pos c] at hread
      exact ⟨neg, kept, 0, by rw [hread]; simp, rfl, rep_sgn (by omega)⟩
    · rw [if_neg c] at hread
      have hrv := rung_val L kept hk h0 h1 c
      exact ⟨neg, _, _, hread, by rw [hrv], rep_sgn (by omega)⟩

theorem rep_big (c : Nat) (hc : c ≤ 15) : Rep ((c * 2 ^ E : Nat) : Int) := ⟨c, E, by simp, by omega, by omega⟩

theorem rndN_le (N c : Nat) (hc : c ≤ 15) (h : N ≤ c * 2 ^ E) : rndN N ≤ c * 2 ^ E := by
  have := rndN_near N _ (rep_big c hc)
  generalize c * 2 ^ E = B at *
  omega

theorem rnd_le (n : Int) (c : Nat) (hc : c ≤ 15) (h : n.natAbs ≤ c * 2 ^ E) : (rnd n).natAbs ≤ c * 2 ^ E := by
  have := rndN_le n.natAbs c hc h
  unfold rnd
  split <;> simpa using this

theorem big_lt : 15 * 2 ^ E < 2 ^ (E + 4) := by
  have : 2 ^ (E + 4) = 16 * 2 ^ E := by rw [Nat.pow_add, Nat.mul_comm]
  have p := npow_pos E
  rw [this]
  generalize 2 ^ E = B at *
  omega

/-- a sum of two numbers, written -/
theorem sum_write {s t : Bool} {m n k l : Nat} {a b : Int} (ea : a = sgn s (m * 2 ^ k)) (eb : b = sgn t (n * 2 ^ l)) (hb : (a + b).natAbs ≤ 15 * 2 ^ E) :
    ∃ z, ((Ieee.Datum.number s m (-1074 + k)).sum (.number t n (-1074 + l))).map Ieee.double.write = some z ∧ Word z (rnd (a + b)) := by
  obtain ⟨c, hc⟩ : ∃ c, c = min k l := ⟨_, rfl⟩
  have e0 : min (-1074 + (k : Int)) (-1074 + (l : Int)) = -1074 + (c : Int) := by omega
  have e1 : ((-1074 + (k : Int)) - (-1074 + (c : Int))).toNat = k - c := by omega
  have e2 : ((-1074 + (l : Int)) - (-1074 + (c : Int))).toNat = l - c := by omega
  obtain ⟨T, hT⟩ : ∃ T : Int, T = sgn s (m * 2 ^ (k - c)) + sgn t (n * 2 ^ (l - c)) := ⟨_, rfl⟩
  have hab : a + b = T * (2 ^ c : Nat) := by
    rw [ea, eb, hT, split_pow m k c (by omega), split_pow n l c (by omega), sgn_mul s _ (2 ^ c), sgn_mul t _ (2 ^ c), Int.add_mul]
  refine ⟨Ieee.double.nearest (if T = 0 then s && t else decide (T < 0)) T.natAbs (-1074 + (c : Int)), ?_, ?_⟩
  · unfold Ieee.Datum.sum
    dsimp only
    rw [e0, e1, e2, signed_eq, signed_eq, ← hT]
    rfl
  · have hN : T.natAbs * 2 ^ c = (a + b).natAbs := by
      rw [hab, Int.natAbs_mul, Int.natAbs_natCast]
    have hlt : rndN (T.natAbs * 2 ^ c) < 2 ^ (E + 4) := by
      rw [hN]
      exact Nat.lt_of_le_of_lt (rndN_le _ 15 (Nat.le_refl _) hb) big_lt
    have hw := nearest_word (if T = 0 then s && t else decide (T < 0)) T.natAbs c hlt
    rw [hN] at hw
    have hv : sgn (if T = 0 then s && t else decide (T < 0)) (rndN (a + b).natAbs) = rnd (a + b) := by
      by_cases h0 : T = 0
      · have : a + b = 0 := by rw [hab, h0, Int.zero_mul]
        rw [this]
        show sgn _ (rndN 0) = rnd 0
        rw [rndN_zero, sgn_zero]
        unfold rnd
        rw [if_neg (by omega)]
        show (0 : Int) = (rndN 0 : Nat)
        rw [rndN_zero]
        rfl
      · rw [if_neg h0]
        have p : (0 : Int) < (2 ^ c : Nat) := by have := npow_pos c; omega
        unfold sgn rnd
        by_cases h1 : T < 0
        · have h2 : a + b < 0 := by rw [hab]; exact Int.mul_neg_of_neg_of_pos h1 p
          rw [if_pos h2, decide_eq_true h1]
          rfl
        · have h2 : ¬ a + b < 0 := by
            rw [hab]
            have : 0 ≤ T * (2 ^ c : Nat) := Int.mul_nonneg (by omega) (by omega)
            omega
          rw [if_neg h2, decide_eq_false h1]
          rfl
    rw [hv] at hw
    exact hw

theorem word_add {x y : Nat} {a b : Int} (hx : Word x a) (hy : Word y b) (hb : (a + b).natAbs ≤ 15 * 2 ^ E) : ∃ z, Ieee.double.add x y = some z ∧ Word z (rnd (a + b)) := by
  obtain ⟨s, m, k, ex, ea, _⟩ := hx
  obtain ⟨t, n, l, ey, eb, _⟩ := hy
  unfold Ieee.Format.add
  rw [ex, ey]
  exact sum_write ea eb hb

theorem word_sub {x y : Nat} {a b : Int} (hx : Word x a) (hy : Word y b) (hb : (a - b).natAbs ≤ 15 * 2 ^ E) : ∃ z, Ieee.double.sub x y = some z ∧ Word z (rnd (a - b)) := by
  obtain ⟨s, m, k, ex, ea, _⟩ := hx
  obtain ⟨t, n, l, ey, eb, _⟩ := hy
  unfold Ieee.Format.sub
  rw [ex, ey]
  have eb' : -b = sgn (!t) (n * 2 ^ l) := by
    rw [eb]
    unfold sgn
    cases t <;> simp
  rw [Int.sub_eq_add_neg] at hb ⊢
  exact sum_write ea eb' hb

end Go.Proofs.Qxb6001716aMods.Tws
