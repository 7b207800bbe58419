import Derived.Test.Qxb6001716aModsTwoSum
namespace Go.Proofs.Qxb6001716aMods.Tws

/-- round half even of N by 2^L -/
def cutN (N L : Nat) : Nat :=
  N / 2 ^ L + (decide (2 ^ L < 2 * (N % 2 ^ L)) || (2 ^ L == 2 * (N % 2 ^ L) && N / 2 ^ L % 2 == 1)).toNat

def lastN (N : Nat) : Nat := N.log2 - 52

def rndN (N : Nat) : Nat := cutN N (lastN N) * 2 ^ lastN N

def rnd (n : Int) : Int := if n < 0 then -(rndN n.natAbs : Int) else (rndN n.natAbs : Int)

theorem npow_pos (L : Nat) : 0 < 2 ^ L := Nat.pow_pos (by omega)

/-- the rounded number is at most half a gap off -/
theorem cutN_half (N L : Nat) : 2 * ((N : Int) - ((cutN N L * 2 ^ L : Nat) : Int)).natAbs ≤ 2 ^ L := by
  have p := npow_pos L
  have d := Nat.div_add_mod N (2 ^ L)
  have m := Nat.mod_lt N p
  unfold cutN
  generalize hq : N / 2 ^ L = q at *
  generalize hr : N % 2 ^ L = r at *
  generalize 2 ^ L = P at *
  by_cases c : (decide (P < 2 * r) || (P == 2 * r && q % 2 == 1)) = true
  · rw [c]
    have hc : P ≤ 2 * r := by
      simp at c; omega
    have e : (q + Bool.toNat true) * P = P * q + P := by
      show (q + 1) * P = P * q + P
      rw [Nat.add_mul, Nat.mul_comm, Nat.one_mul]
    rw [e]
    omega
  · have c' : (decide (P < 2 * r) || (P == 2 * r && q % 2 == 1)) = false := by simpa using c
    rw [c']
    have hc : 2 * r ≤ P := by
      simp at c'; omega
    have e : (q + Bool.toNat false) * P = P * q := by
      simp [Nat.mul_comm]
    rw [e]
    omega

theorem lastN_hi (N : Nat) : N < 2 ^ (lastN N + 53) := by
  unfold lastN
  refine Nat.lt_of_lt_of_le (Nat.lt_log2_self (n := N)) (Nat.pow_le_pow_right (by omega) (by omega))

theorem lastN_lo (N : Nat) (h : lastN N ≠ 0) : 2 ^ (lastN N + 52) ≤ N := by
  unfold lastN at *
  have : N ≠ 0 := by intro e; subst e; simp at h
  have e : N.log2 - 52 + 52 = N.log2 := by omega
  rw [e]
  exact Nat.log2_self_le this

theorem cutN_le (N : Nat) : cutN N (lastN N) ≤ 2 ^ 53 := by
  have h := lastN_hi N
  have p := npow_pos (lastN N)
  have : N / 2 ^ lastN N < 2 ^ 53 := by
    rw [Nat.div_lt_iff_lt_mul p, ← Nat.pow_add, Nat.add_comm]; exact h
  unfold cutN
  have := Bool.toNat_le (decide (2 ^ lastN N < 2 * (N % 2 ^ lastN N)) || (2 ^ lastN N == 2 * (N % 2 ^ lastN N) && N / 2 ^ lastN N % 2 == 1))
  omega

theorem cutN_ge (N : Nat) (h0 : lastN N ≠ 0) : 2 ^ 52 ≤ cutN N (lastN N) := by
  have h := lastN_lo N h0
  have p := npow_pos (lastN N)
  have : 2 ^ 52 ≤ N / 2 ^ lastN N := by
    rw [Nat.le_div_iff_mul_le p, ← Nat.pow_add, Nat.add_comm]; exact h
  unfold cutN
  omega

theorem rndN_rep (N : Nat) : Rep (rndN N) := by
  refine ⟨(cutN N (lastN N) : Int), lastN N, by simp [rndN], by omega, ?_⟩
  have := cutN_le N
  omega

theorem rndN_half (N : Nat) : 2 * ((N : Int) - rndN N).natAbs ≤ 2 ^ lastN N := by
  exact cutN_half N (lastN N)

theorem mult_near {L : Nat} {n s r : Int} (hs : Mult L s) (hr : Mult L r) (h : 2 * (n - s).natAbs ≤ 2 ^ L) : (n - s).natAbs ≤ (n - r).natAbs := by
  obtain ⟨x, rfl⟩ := hs
  obtain ⟨y, rfl⟩ := hr
  have p := npow_pos L
  have e : ((2 ^ L : Nat) : Int) = (2 : Int) ^ L := by simp
  by_cases c : x = y
  · subst c; exact Nat.le_refl _
  · have : 2 ^ L ≤ (x * 2 ^ L - y * 2 ^ L : Int).natAbs := by
      rw [← Int.sub_mul, Int.natAbs_mul]
      have q : 1 ≤ (x - y).natAbs := by omega
      have e2 : ((2 : Int) ^ L).natAbs = 2 ^ L := by rw [← e]; simp
      rw [e2]
      exact Nat.le_mul_of_pos_left _ q
    generalize (2 : Int) ^ L = Q at *
    omega

theorem rndN_mult (N : Nat) : Mult (lastN N) (rndN N) := ⟨(cutN N (lastN N) : Int), by simp [rndN]⟩

theorem rndN_near (N : Nat) (r : Int) (hr : Rep r) : ((N : Int) - rndN N).natAbs ≤ ((N : Int) - r).natAbs := by
  have h2 := rndN_half N
  by_cases c : Mult (lastN N) r
  · exact mult_near (rndN_mult N) c h2
  · obtain ⟨g, hg, l, u⟩ := hr.mult
    have hlt : g < lastN N := by
      by_cases c2 : lastN N ≤ g
      · exact absurd (hg.le c2) c
      · omega
    have hlo := lastN_lo N (by omega)
    -- the greatest r below the binade
    have n3 : 9007199254740992 * 2 ^ g ≤ (2 ^ (lastN N + 52) : Nat) := by
      have : (9007199254740992 : Nat) * 2 ^ g = 2 ^ (53 + g) := by rw [Nat.pow_add]
      have : 2 ^ (53 + g) ≤ 2 ^ (lastN N + 52) := Nat.pow_le_pow_right (by omega) (by omega)
      omega
    have m1 : Mult (lastN N) ((2 ^ (lastN N + 52) : Nat) : Int) := ⟨2 ^ 52, by rw [Nat.add_comm, Nat.pow_add]; simp⟩
    have n1 := mult_near (rndN_mult N) m1 h2
    have e : ((2 ^ g : Nat) : Int) = (2 : Int) ^ g := by simp
    rw [← e] at l u
    generalize 2 ^ (lastN N + 52) = B at *
    generalize 2 ^ g = G at *
    omega

theorem rndN_multOf (N g : Nat) (h : Mult g N) : Mult g (rndN N) := by
  by_cases c : g ≤ lastN N
  · exact (rndN_mult N).le c
  · -- N is a multiple of the last place: it stays as it is
    have m := h.le (g := lastN N) (by omega)
    have := mult_near (rndN_mult N) m (rndN_half N)
    have e : (rndN N : Int) = N := by omega
    rw [e]; exact h

theorem rep_of_lastN (N g : Nat) (h : Mult g N) (hl : lastN N ≤ g) : Rep N := by
  have m := h.le hl
  have := mult_near (rndN_mult N) m (rndN_half N)
  have e : (rndN N : Int) = N := by omega
  rw [← e]; exact rndN_rep N

theorem rndN_more (N g : Nat) (h : Mult g N) (hn : ¬ Rep N) : Mult (g + 1) (rndN N) := by
  by_cases c : lastN N ≤ g
  · exact absurd (rep_of_lastN N g h c) hn
  · exact (rndN_mult N).le (by omega)

theorem rnd_is (n : Int) : IsRn n (rnd n) := by
  unfold rnd
  by_cases c : n < 0
  · rw [if_pos c]
    have e : n = -(n.natAbs : Int) := by omega
    generalize n.natAbs = N at *
    subst e
    refine ⟨(rndN_rep N).neg, fun r hr => ?_, fun g h => ?_, fun g h hn => ?_⟩
    · have := rndN_near N (-r) hr.neg
      omega
    · have := (rndN_multOf N g (by simpa using h.neg)).neg
      exact this
    · exact (rndN_more N g (by simpa using h.neg) (fun q => hn q.neg)).neg
  · rw [if_neg c]
    have e : n = (n.natAbs : Int) := by omega
    generalize n.natAbs = N at *
    subst e
    exact ⟨rndN_rep N, rndN_near N, rndN_multOf N, rndN_more N⟩

end Go.Proofs.Qxb6001716aMods.Tws
