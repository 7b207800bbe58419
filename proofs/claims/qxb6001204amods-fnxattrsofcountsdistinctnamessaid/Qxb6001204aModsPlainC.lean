/- The plain law of FnXattrsOfCountsDistinctNames: the set of the keys with the lead. No Go in sight. -/
import Derived.Test.Qxb6001204aModsPlainB
namespace Go.Proofs.Qxb6001204aMods
open Go.Maps

/-- the set of those of the first k keys that bear the lead -/
def seens (ks : List ByteArray) : Nat → DataW Unit
  | 0 => .map []
  | k + 1 => if PFX.isPrefixOf (ks.getD k ByteArray.empty).data.toList && !has (seens ks k) (kOf (ks.getD k ByteArray.empty)) then (seens ks k).put (kOf (ks.getD k ByteArray.empty)) (.lit (.bool true)) else seens ks k

theorem kOf_lit (s : ByteArray) : WideAt.IsKeyLit (kOf s) := trivial

theorem good_seens (ks : List ByteArray) : ∀ k, Good (seens ks k)
  | 0 => good_empty
  | k + 1 => by
    unfold seens
    split
    · exact (good_seens ks k).put _ _
    · exact good_seens ks k

/-- every element is true -/
def AllTrue (D : DataW Unit) : Prop := ∀ k z, has D k = true → D.atKey k z = .lit (.bool true)

theorem allTrue_seens (ks : List ByteArray) : ∀ k, AllTrue (seens ks k)
  | 0 => fun k z h => by cases h
  | k + 1 => by
    unfold seens
    split
    · intro q z h
      by_cases e : q = kOf (ks.getD k ByteArray.empty)
      · subst e
        exact atKey_put_same (good_seens ks k).tidy.isMap (key_lit _) _ _
      · rw [has_put_other e] at h
        rw [atKey_put_other e]
        exact allTrue_seens ks k q z h
    · exact allTrue_seens ks k

theorem atKey_allTrue {D : DataW Unit} (h : AllTrue D) (k : Lit) : D.atKey k (.lit (.bool false)) = .lit (.bool (has D k)) := by
  cases hk : has D k
  · exact atKey_of_not_has hk _
  · exact h k _ hk

theorem size_seens_new (ks : List ByteArray) (k : Nat) (h : PFX.isPrefixOf (ks.getD k ByteArray.empty).data.toList = true) (h2 : has (seens ks k) (kOf (ks.getD k ByteArray.empty)) = false) :
    seens ks (k + 1) = (seens ks k).put (kOf (ks.getD k ByteArray.empty)) (.lit (.bool true)) ∧ size (seens ks (k + 1)) = size (seens ks k) + 1 := by
  have e : seens ks (k + 1) = (seens ks k).put (kOf (ks.getD k ByteArray.empty)) (.lit (.bool true)) := by
    show (if PFX.isPrefixOf (ks.getD k ByteArray.empty).data.toList && !has (seens ks k) (kOf (ks.getD k ByteArray.empty)) then (seens ks k).put (kOf (ks.getD k ByteArray.empty)) (.lit (.bool true)) else seens ks k) = _
    rw [h, h2]
    rfl
  refine ⟨e, ?_⟩
  rw [e, size_put (good_seens ks k).tidy, h2]
  rfl

theorem seens_old (ks : List ByteArray) (k : Nat) (h : PFX.isPrefixOf (ks.getD k ByteArray.empty).data.toList = false ∨ has (seens ks k) (kOf (ks.getD k ByteArray.empty)) = true) : seens ks (k + 1) = seens ks k := by
  show (if PFX.isPrefixOf (ks.getD k ByteArray.empty).data.toList && !has (seens ks k) (kOf (ks.getD k ByteArray.empty)) then (seens ks k).put (kOf (ks.getD k ByteArray.empty)) (.lit (.bool true)) else seens ks k) = _
  rcases h with h | h
  · rw [h]; rfl
  · rw [h]; simp

/-- a key is in the set just if it bears the lead and is among the records' keys -/
theorem has_seens (ks vs : List ByteArray) : ∀ k l, has (seens ks k) (.string l) = (PFX.isPrefixOf l && has (recs ks vs k) (.string l))
  | 0, l => by cases PFX.isPrefixOf l <;> rfl
  | k + 1, l => by
    have ih := has_seens ks vs k
    have g1 := (good_seens ks k).tidy.isMap
    have g2 := (good_recs ks vs k).tidy.isMap
    have er : recs ks vs (k + 1) = (recs ks vs k).put (kOf (ks.getD k ByteArray.empty)) (dOf (vs.getD k ByteArray.empty)) := rfl
    rw [er]
    by_cases e : (Lit.string l) = kOf (ks.getD k ByteArray.empty)
    · have el : l = (ks.getD k ByteArray.empty).data.toList := by unfold kOf at e; injection e
      rw [e, has_put_same g2 (kOf_lit _)]
      cases hp : PFX.isPrefixOf (ks.getD k ByteArray.empty).data.toList
      · rw [seens_old ks k (Or.inl hp), ← e, ih l, el, hp]
        simp
      · cases hs : has (seens ks k) (kOf (ks.getD k ByteArray.empty))
        · rw [(size_seens_new ks k hp hs).1, has_put_same g1 (kOf_lit _), el, hp]
          rfl
        · rw [seens_old ks k (Or.inr hs), hs, el, hp]
          rfl
    · rw [has_put_other e]
      cases hp : PFX.isPrefixOf (ks.getD k ByteArray.empty).data.toList
      · rw [seens_old ks k (Or.inl hp), ih l]
      · cases hs : has (seens ks k) (kOf (ks.getD k ByteArray.empty))
        · rw [(size_seens_new ks k hp hs).1, has_put_other e, ih l]
        · rw [seens_old ks k (Or.inr hs), ih l]

/-- as many attributes as keys in the set -/
theorem size_seens (ks vs : List ByteArray) (n : Nat) {Dout : DataW Unit} (hg : Good Dout) (hE : ∀ l, has Dout (.string l) = has (recs ks vs n) (.string (PFX ++ l))) : size Dout = size (seens ks n) := by
  have hpfx : ∀ l, PFX.isPrefixOf (PFX ++ l) = true := fun l => List.isPrefixOf_iff_prefix.2 (List.prefix_append _ _)
  have h1 : size Dout ≤ size (seens ks n) := size_le_of hg (good_seens ks n) (fun l => PFX ++ l) (fun a b _ _ e => List.append_cancel_left e) (fun l h => by
    rw [has_seens ks vs, hpfx, ← hE, h]; rfl)
  have h2 : size (seens ks n) ≤ size Dout := size_le_of (good_seens ks n) hg (fun l => l.drop 13) (fun a b ha hb e => by
    rw [has_seens ks vs, Bool.and_eq_true] at ha hb
    rw [prefix_split ha.1, prefix_split hb.1, e]) (fun l h => by
    rw [has_seens ks vs, Bool.and_eq_true] at h
    rw [hE, ← prefix_split h.1]
    exact h.2)
  omega

end Go.Proofs.Qxb6001204aMods
