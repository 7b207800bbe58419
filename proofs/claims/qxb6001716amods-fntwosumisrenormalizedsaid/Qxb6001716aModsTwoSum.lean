namespace Go.Proofs.Qxb6001716aMods.Tws

/-- representable: at most 53 bits, whole units -/
def Rep (n : Int) : Prop := ∃ (m : Int) (e : Nat), n = m * 2 ^ e ∧ -9007199254740992 ≤ m ∧ m ≤ 9007199254740992

def Mult (g : Nat) (n : Int) : Prop := ∃ k : Int, n = k * 2 ^ g

theorem pow_pos' (g : Nat) : (0 : Int) < 2 ^ g := Int.pow_pos (by omega)

theorem Mult.add {g : Nat} {a b : Int} (ha : Mult g a) (hb : Mult g b) : Mult g (a + b) := by
  obtain ⟨x, rfl⟩ := ha; obtain ⟨y, rfl⟩ := hb; exact ⟨x + y, by rw [Int.add_mul]⟩
theorem Mult.sub {g : Nat} {a b : Int} (ha : Mult g a) (hb : Mult g b) : Mult g (a - b) := by
  obtain ⟨x, rfl⟩ := ha; obtain ⟨y, rfl⟩ := hb; exact ⟨x - y, by rw [Int.sub_mul]⟩
theorem Mult.neg {g : Nat} {a : Int} (ha : Mult g a) : Mult g (-a) := by
  obtain ⟨x, rfl⟩ := ha; exact ⟨-x, by rw [Int.neg_mul]⟩
theorem Mult.le {g h : Nat} (hgh : g ≤ h) {a : Int} (ha : Mult h a) : Mult g a := by
  obtain ⟨x, rfl⟩ := ha
  refine ⟨x * 2 ^ (h - g), ?_⟩
  rw [Int.mul_assoc, ← Int.pow_add]
  congr 2; omega
theorem Mult.zero (g : Nat) : Mult g 0 := ⟨0, by simp⟩

/-- a multiple of 2^g that is not above 2^53 of them -/
theorem rep_of_mult {g : Nat} {n : Int} (h : Mult g n) (l : -(9007199254740992 * 2 ^ g) ≤ n) (u : n ≤ 9007199254740992 * 2 ^ g) : Rep n := by
  obtain ⟨k, rfl⟩ := h
  have p := pow_pos' g
  refine ⟨k, g, rfl, ?_, ?_⟩
  · refine Int.le_of_mul_le_mul_right (a := 2 ^ g) ?_ p
    rw [Int.neg_mul]; exact l
  · exact Int.le_of_mul_le_mul_right u p

theorem Rep.mult {n : Int} (h : Rep n) : ∃ g, Mult g n ∧ -(9007199254740992 * 2 ^ g) ≤ n ∧ n ≤ 9007199254740992 * 2 ^ g := by
  obtain ⟨m, e, rfl, l, u⟩ := h
  have p := pow_pos' e
  refine ⟨e, ⟨m, rfl⟩, ?_, Int.mul_le_mul_of_nonneg_right u (Int.le_of_lt p)⟩
  rw [← Int.neg_mul]; exact Int.mul_le_mul_of_nonneg_right l (Int.le_of_lt p)

theorem Rep.neg {n : Int} (h : Rep n) : Rep (-n) := by
  obtain ⟨m, e, rfl, l, u⟩ := h
  exact ⟨-m, e, by rw [Int.neg_mul], by omega, by omega⟩

theorem rep_zero : Rep 0 := ⟨0, 0, by simp, by omega, by omega⟩

/-- what rounding to nearest gives -/
structure IsRn (n s : Int) : Prop where
  rep : Rep s
  near : ∀ r, Rep r → (n - s).natAbs ≤ (n - r).natAbs
  mult : ∀ g, Mult g n → Mult g s
  more : ∀ g, Mult g n → ¬ Rep n → Mult (g + 1) s

theorem IsRn.exact {n s : Int} (h : IsRn n s) (hn : Rep n) : s = n := by
  have := h.near n hn
  omega

/-- the error of a sum is representable -/
theorem err_rep {a b s : Int} (ha : Rep a) (hb : Rep b) (h : IsRn (a + b) s) : Rep (a + b - s) := by
  obtain ⟨g, hg, l, u⟩ := ha.mult
  obtain ⟨g', hg', l', u'⟩ := hb.mult
  have ea := h.near a ha
  have eb := h.near b hb
  by_cases c : g ≤ g'
  · have m := hg.add (hg'.le c)
    exact rep_of_mult (g := g) (m.sub (h.mult g m)) (by omega) (by omega)
  · have m := (hg.le (by omega)).add hg'
    exact rep_of_mult (g := g') (m.sub (h.mult g' m)) (by omega) (by omega)

/-- two numbers of one scale: the error is at most one unit of it -/
theorem err_unit {g : Nat} {n s : Int} (hn : Mult g n) (h : IsRn n s) (l : -(2 * (9007199254740992 * 2 ^ g)) ≤ n) (u : n ≤ 2 * (9007199254740992 * 2 ^ g)) :
    (n - s).natAbs ≤ (2 ^ g : Int).natAbs := by
  obtain ⟨k, rfl⟩ := hn
  have p := pow_pos' g
  have e1 : (2 : Int) ^ (g + 1) = 2 * 2 ^ g := by rw [Int.pow_succ]; omega
  by_cases hk : k % 2 = 0
  · have hr : Rep (k * 2 ^ g) := by
      refine rep_of_mult (g := g + 1) ⟨k / 2, ?_⟩ (by rw [e1]; omega) (by rw [e1]; omega)
      rw [e1, ← Int.mul_assoc]; congr 1; omega
    have := h.exact hr
    omega
  · have lk : -18014398509481984 ≤ k := by
      refine Int.le_of_mul_le_mul_right (a := 2 ^ g) ?_ p
      rw [Int.neg_mul]; omega
    have uk : k ≤ 18014398509481984 := by
      refine Int.le_of_mul_le_mul_right (a := 2 ^ g) ?_ p
      omega
    have hr : Rep ((k - 1) * 2 ^ g) := by
      refine ⟨(k - 1) / 2, g + 1, ?_, by omega, by omega⟩
      rw [e1, ← Int.mul_assoc]; congr 1; omega
    have := h.near _ hr
    have e2 : k * 2 ^ g - (k - 1) * 2 ^ g = 2 ^ g := by rw [Int.sub_mul]; omega
    rw [e2] at this
    exact this

/-- a scale for two numbers, the second not greater than the first: the second's is not above the first's -/
theorem scales {a b : Int} (ha : Rep a) (hb : Rep b) (hab : b.natAbs ≤ a.natAbs) :
    ∃ ga gb, gb ≤ ga ∧ Mult ga a ∧ Mult gb b ∧ -(9007199254740992 * 2 ^ ga) ≤ a ∧ a ≤ 9007199254740992 * 2 ^ ga ∧ -(9007199254740992 * 2 ^ gb) ≤ b ∧ b ≤ 9007199254740992 * 2 ^ gb := by
  obtain ⟨g, hg, l, u⟩ := ha.mult
  obtain ⟨g', hg', l', u'⟩ := hb.mult
  by_cases c : g' ≤ g
  · exact ⟨g, g', c, hg, hg', l, u, l', u'⟩
  · exact ⟨g, g, Nat.le_refl _, hg, hg'.le (by omega), l, u, by omega, by omega⟩

/-- Dekker: the greater operand can be taken off the rounded sum exactly -/
theorem off_rep {a b s : Int} (ha : Rep a) (hb : Rep b) (hab : b.natAbs ≤ a.natAbs) (h : IsRn (a + b) s) : Rep (s - a) := by
  by_cases hx : Rep (a + b)
  · have := h.exact hx
    have e : s - a = b := by omega
    rw [e]; exact hb
  · obtain ⟨ga, gb, c, ma, mb, la, ua, lb, ub⟩ := scales ha hb hab
    have m := (ma.le c).add mb
    have ea := h.near a ha
    have e1 : (2 : Int) ^ (gb + 1) = 2 * 2 ^ gb := by rw [Int.pow_succ]; omega
    have p := pow_pos' gb
    by_cases c2 : gb = ga
    · subst c2
      have eu := err_unit m h (by omega) (by omega)
      -- b is not at the very edge, else a + b were representable
      have hb1 : b.natAbs < (9007199254740992 * 2 ^ gb : Int).natAbs := by
        by_cases hlt : b.natAbs < (9007199254740992 * 2 ^ gb : Int).natAbs
        · exact hlt
        · exfalso
          apply hx
          have q : a + b = 0 ∨ a + b = 2 * (9007199254740992 * 2 ^ gb) ∨ a + b = -(2 * (9007199254740992 * 2 ^ gb)) := by omega
          rcases q with q | q | q
          · rw [q]; exact rep_zero
          · rw [q]; exact ⟨9007199254740992, gb + 1, by rw [e1]; omega, by omega, by omega⟩
          · rw [q]; exact ⟨-9007199254740992, gb + 1, by rw [e1]; omega, by omega, by omega⟩
      obtain ⟨kb, ekb⟩ := mb
      have hkb : b.natAbs + (2 ^ gb : Int).natAbs ≤ (9007199254740992 * 2 ^ gb : Int).natAbs := by
        have k1 : kb < 9007199254740992 := Int.lt_of_mul_lt_mul_right (a := 2 ^ gb) (by omega) (Int.le_of_lt p)
        have k2 : -9007199254740992 < kb := Int.lt_of_mul_lt_mul_right (a := 2 ^ gb) (by rw [Int.neg_mul]; omega) (Int.le_of_lt p)
        have k3 : (kb + 1) * 2 ^ gb ≤ 9007199254740992 * 2 ^ gb := Int.mul_le_mul_of_nonneg_right (by omega) (Int.le_of_lt p)
        have k4 : -9007199254740992 * 2 ^ gb ≤ (kb - 1) * 2 ^ gb := Int.mul_le_mul_of_nonneg_right (by omega) (Int.le_of_lt p)
        rw [Int.add_mul] at k3
        rw [Int.sub_mul, Int.neg_mul] at k4
        omega
      exact rep_of_mult (g := gb) ((h.mult _ m).sub ma) (by omega) (by omega)
    · have ms := h.more gb m hx
      exact rep_of_mult (g := gb + 1) (ms.sub (ma.le (by omega))) (by rw [e1]; omega) (by rw [e1]; omega)

/-- Fast2Sum -/
theorem fast {a b s z e : Int} (ha : Rep a) (hb : Rep b) (hab : b.natAbs ≤ a.natAbs) (hs : IsRn (a + b) s) (hz : IsRn (s - a) z) (he : IsRn (b - z) e) : e = a + b - s := by
  have ez := hz.exact (off_rep ha hb hab hs)
  subst ez
  have e1 : b - (s - a) = a + b - s := by omega
  rw [e1] at he
  exact he.exact (err_rep ha hb hs)

/-- 2Sum -/
theorem twoSum {a b s z d x y l : Int} (ha : Rep a) (hb : Rep b) (hs : IsRn (a + b) s) (hz : IsRn (s - a) z) (hd : IsRn (s - z) d) (hx : IsRn (a - d) x) (hy : IsRn (b - z) y) (hl : IsRn (x + y) l) :
    l = a + b - s := by
  by_cases hab : b.natAbs ≤ a.natAbs
  · have ez := hz.exact (off_rep ha hb hab hs)
    have ed := hd.exact (by have : s - z = a := by omega
                            rw [this]; exact ha)
    have ex := hx.exact (by have : a - d = 0 := by omega
                            rw [this]; exact rep_zero)
    have ey := fast ha hb hab hs hz hy
    have el := hl.exact (by have : x + y = a + b - s := by omega
                            rw [this]; exact err_rep ha hb hs)
    omega
  · by_cases hrep : Rep (a + b)
    · have es := hs.exact hrep
      have ez := hz.exact (by have : s - a = b := by omega
                              rw [this]; exact hb)
      have ed := hd.exact (by have : s - z = a := by omega
                              rw [this]; exact ha)
      have ex := hx.exact (by have : a - d = 0 := by omega
                              rw [this]; exact rep_zero)
      have ey := hy.exact (by have : b - z = 0 := by omega
                              rw [this]; exact rep_zero)
      have el := hl.exact (by have : x + y = 0 := by omega
                              rw [this]; exact rep_zero)
      omega
    · obtain ⟨gb, ga, c, mb, ma, lb, ub, la, ua⟩ := scales hb ha (by omega)
      have m := ma.add (mb.le c)
      have p := pow_pos' ga
      have e1 : (2 : Int) ^ (ga + 1) = 2 * 2 ^ ga := by rw [Int.pow_succ]; omega
      -- |s| is at least |a|
      have hbig : (9007199254740992 * 2 ^ ga : Int).natAbs < (a + b).natAbs := by
        by_cases hlt : (9007199254740992 * 2 ^ ga : Int).natAbs < (a + b).natAbs
        · exact hlt
        · exact absurd (rep_of_mult m (by omega) (by omega)) hrep
      have r1 : Rep (9007199254740992 * 2 ^ ga) := ⟨9007199254740992, ga, rfl, by omega, by omega⟩
      have n1 := hs.near _ r1
      have n2 := hs.near _ r1.neg
      have hsa : (-a).natAbs ≤ s.natAbs := by omega
      -- the walk back from s
      have hz' : IsRn (s + -a) z := by rw [← Int.sub_eq_add_neg]; exact hz
      have o1 := off_rep hs.rep ha.neg hsa hz'
      have ed := hd.exact (by have : s - z = -(z - s) := by omega
                              rw [this]; exact o1.neg)
      have er := err_rep hs.rep ha.neg hz'
      have ex := hx.exact (by have : a - d = -(s + -a - z) := by omega
                              rw [this]; exact er.neg)
      have eB := hs.near b hb
      have eB2 := hz.near b hb
      -- b - z is representable
      have ry : Rep (b - z) := by
        by_cases hr2 : Rep (s - a)
        · have ez := hz.exact hr2
          have : b - z = a + b - s := by omega
          rw [this]; exact err_rep ha hb hs
        · have ms := hs.mult ga m
          have msa := ms.sub ma
          by_cases c2 : ga = gb
          · subst c2
            have eu := err_unit m hs (by omega) (by omega)
            exact rep_of_mult (g := ga) (mb.sub (hz.mult ga msa)) (by omega) (by omega)
          · have mz := hz.more ga msa hr2
            exact rep_of_mult (g := ga + 1) ((mb.le (by omega)).sub mz) (by rw [e1]; omega) (by rw [e1]; omega)
      have ey := hy.exact ry
      have el := hl.exact (by have : x + y = a + b - s := by omega
                              rw [this]; exact err_rep ha hb hs)
      omega

end Go.Proofs.Qxb6001716aMods.Tws
