/- The plain law of FnXattrsOfInvertsTheirRecords and FnXattrsOfCountsDistinctNames: the records, key by key. No Go in sight. -/
import Derived.Test.Qxb6001204aModsPlain
namespace Go.Proofs.Qxb6001204aMods
open Go.Maps

theorem str_ne {a b : List UInt8} (h : a ≠ b) : (Lit.string a) ≠ .string b := fun q => h (by injection q)

/-- the first k pairs, each under its name with the lead ahead -/
def precs (ks vs : List ByteArray) : Nat → DataW Unit
  | 0 => .map []
  | k + 1 => (precs ks vs k).put (.string (PFX ++ (ks.getD k ByteArray.empty).data.toList)) (dOf (vs.getD k ByteArray.empty))

/-- the first k of the others, where the lead is not there, laid over D -/
def orecs (D : DataW Unit) (os : List ByteArray) : Nat → DataW Unit
  | 0 => D
  | k + 1 => if PFX.isPrefixOf (os.getD k ByteArray.empty).data.toList then orecs D os k else (orecs D os k).put (kOf (os.getD k ByteArray.empty)) (dOf (os.getD k ByteArray.empty))

theorem good_precs (ks vs : List ByteArray) : ∀ k, Good (precs ks vs k)
  | 0 => good_empty
  | k + 1 => (good_precs ks vs k).put _ _

theorem good_orecs {D : DataW Unit} (h : Good D) (os : List ByteArray) : ∀ k, Good (orecs D os k)
  | 0 => h
  | k + 1 => by
    unfold orecs
    split
    · exact good_orecs h os k
    · exact (good_orecs h os k).put _ _

theorem precs_key (ks vs : List ByteArray) : ∀ k, (∀ l, has (precs ks vs k) (.string (PFX ++ l)) = has (recs ks vs k) (.string l)) ∧ ∀ l z, (precs ks vs k).atKey (.string (PFX ++ l)) z = (recs ks vs k).atKey (.string l) z
  | 0 => ⟨fun _ => rfl, fun _ _ => rfl⟩
  | k + 1 => by
    obtain ⟨h1, h2⟩ := precs_key ks vs k
    unfold precs recs kOf
    generalize (ks.getD k ByteArray.empty).data.toList = x
    generalize dOf (vs.getD k ByteArray.empty) = d
    have g1 := (good_precs ks vs k).tidy.isMap
    have g2 := (good_recs ks vs k).tidy.isMap
    refine ⟨fun l => ?_, fun l z => ?_⟩
    · by_cases e : l = x
      · subst e
        rw [has_put_same g1 (key_lit _), has_put_same g2 (key_lit _)]
      · rw [has_put_other (str_ne e), has_put_other (str_ne (fun q => e (List.append_cancel_left q))), h1]
    · by_cases e : l = x
      · subst e
        rw [atKey_put_same g1 (key_lit _), atKey_put_same g2 (key_lit _)]
      · rw [atKey_put_other (str_ne e), atKey_put_other (str_ne (fun q => e (List.append_cancel_left q))), h2]

theorem orecs_key (D : DataW Unit) (os : List ByteArray) : ∀ k, (∀ l, has (orecs D os k) (.string (PFX ++ l)) = has D (.string (PFX ++ l))) ∧ ∀ l z, (orecs D os k).atKey (.string (PFX ++ l)) z = D.atKey (.string (PFX ++ l)) z
  | 0 => ⟨fun _ => rfl, fun _ _ => rfl⟩
  | k + 1 => by
    obtain ⟨h1, h2⟩ := orecs_key D os k
    unfold orecs kOf
    split
    · exact ⟨h1, h2⟩
    · rename_i hp
      have hne : ∀ l, (PFX ++ l) ≠ (os.getD k ByteArray.empty).data.toList := by
        intro l e
        apply hp
        rw [← e]
        exact List.isPrefixOf_iff_prefix.2 (List.prefix_append _ _)
      exact ⟨fun l => by rw [has_put_other (str_ne (hne l)), h1], fun l z => by rw [atKey_put_other (str_ne (hne l)), h2]⟩

/-- the records of the attributes and the others, seen through the lead, are the attributes -/
theorem recs_through (ks vs os : List ByteArray) (n m : Nat) :
    (∀ l, has (orecs (precs ks vs n) os m) (.string (PFX ++ l)) = has (recs ks vs n) (.string l)) ∧ ∀ l z, (orecs (precs ks vs n) os m).atKey (.string (PFX ++ l)) z = (recs ks vs n).atKey (.string l) z := by
  obtain ⟨h1, h2⟩ := precs_key ks vs n
  obtain ⟨h3, h4⟩ := orecs_key (precs ks vs n) os m
  exact ⟨fun l => by rw [h3, h1], fun l z => by rw [h4, h2]⟩

/-- each of the first n keys is there -/
theorem has_recs (ks vs : List ByteArray) : ∀ n i, i < n → has (recs ks vs n) (kOf (ks.getD i ByteArray.empty)) = true
  | 0, i, h => absurd h (by omega)
  | n + 1, i, h => by
    unfold recs
    have g := (good_recs ks vs n).tidy.isMap
    by_cases e : kOf (ks.getD i ByteArray.empty) = kOf (ks.getD n ByteArray.empty)
    · rw [e]
      exact has_put_same g (key_lit _) _
    · rw [has_put_other e]
      by_cases hi : i = n
      · subst hi; exact absurd rfl e
      · exact has_recs ks vs n i (by omega)

/-- two maps with the same keys have as many entries -/
theorem size_same {D E : DataW Unit} (hD : Good D) (hE : Good E) (h : ∀ l, has D (.string l) = has E (.string l)) : size D = size E := by
  have h1 := size_le_of hD hE (fun l => l) (fun _ _ _ _ e => e) (fun l q => by rw [← h]; exact q)
  have h2 := size_le_of hE hD (fun l => l) (fun _ _ _ _ e => e) (fun l q => by rw [h]; exact q)
  omega

/-- 'len' of n pairs is nought just if there is none -/
theorem size_recs_pos (ks vs : List ByteArray) (n : Nat) : 0 < size (recs ks vs n) ↔ n ≠ 0 := by
  rw [size_pos_iff (good_recs ks vs n)]
  constructor
  · rintro ⟨l, h⟩ rfl
    cases h
  · intro h
    exact ⟨_, has_recs ks vs n 0 (by omega)⟩

end Go.Proofs.Qxb6001204aMods
