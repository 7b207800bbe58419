/- The plain law of seat b6001204aM: what xattrsOf makes of a map, key by key; how many entries. No Go in sight. -/
import Derived.Maps.Ext
import Derived.Maps.OwnSet
namespace Go.Proofs.Qxb6001204aMods
open Go.Maps

/-- 'SCHILY.xattr.' -/
def PFX : List UInt8 := [83, 67, 72, 73, 76, 89, 46, 120, 97, 116, 116, 114, 46]

/-- the key that a string reads as -/
def kOf (s : ByteArray) : Lit := .string s.data.toList
/-- the datum that a string reads as -/
def dOf (s : ByteArray) : DataW Unit := .lit (.string s.data.toList)

theorem key_lit (l : List UInt8) : WideAt.IsKeyLit (.string l) := trivial

/-- every key is a string, none stands twice -/
def Good (D : DataW Unit) : Prop := ∃ es, D = .map es ∧ es.Pairwise (fun p q => p.1 ≠ q.1) ∧ ∀ p ∈ es, ∃ l, p.1 = .string l

theorem Good.tidy {D : DataW Unit} (h : Good D) : Tidy D := by
  obtain ⟨es, e, hp, _⟩ := h
  exact ⟨es, e, hp⟩

theorem good_empty : Good (.map []) := ⟨[], rfl, List.Pairwise.nil, by simp⟩

theorem mem_insert {x p : Lit × DataW Unit} : ∀ {l : List (Lit × DataW Unit)}, p ∈ DataW.insert x l → p = x ∨ p ∈ l
  | [], h => by simp [DataW.insert] at h; exact Or.inl h
  | y :: r, h => by
    unfold DataW.insert at h
    split at h
    · rcases List.mem_cons.1 h with e | h
      · exact Or.inl e
      · exact Or.inr h
    · rcases List.mem_cons.1 h with e | h
      · exact Or.inr (by simp [e])
      · rcases mem_insert h with e | h
        · exact Or.inl e
        · exact Or.inr (by simp [h])

theorem Good.put {D : DataW Unit} (h : Good D) (l : List UInt8) (d : DataW Unit) : Good (D.put (.string l) d) := by
  obtain ⟨es, e, hp, hs⟩ := h
  obtain ⟨es', e', hp'⟩ := Tidy.put (k := .string l) ⟨es, e, hp⟩ (key_lit l) d
  refine ⟨es', e', hp', ?_⟩
  subst e
  have e2 : es' = DataW.insert (.string l, d) (es.filter fun p => !p.1.sameKey (.string l)) := by
    have : DataW.map (DataW.insert (.string l, d) (es.filter fun p => !p.1.sameKey (.string l))) = .map es' := e'
    injection this with this
    exact this.symm
  subst e2
  intro p hp
  rcases mem_insert hp with rfl | hp
  · exact ⟨l, rfl⟩
  · exact hs p (List.mem_filter.1 hp).1

/-- no more entries than there, if each key of the one has its own in the other -/
theorem size_le_of {D E : DataW Unit} (hD : Good D) (hE : Good E) (f : List UInt8 → List UInt8) (hinj : ∀ a b, has D (.string a) = true → has D (.string b) = true → f a = f b → a = b)
    (hf : ∀ l, has D (.string l) = true → has E (.string (f l)) = true) : size D ≤ size E := by
  obtain ⟨es, rfl, hp, hs⟩ := hD
  obtain ⟨fs, rfl, hq, ht⟩ := hE
  let g : Lit → Lit := fun k => match k with | .string l => .string (f l) | k => k
  have hhas : ∀ p ∈ es, has (.map es : DataW Unit) p.1 = true := by
    intro p hp
    obtain ⟨l, e⟩ := hs p hp
    exact List.any_eq_true.2 ⟨p, hp, by rw [e]; exact WideAt.sameKey_self (key_lit l)⟩
  have hnd : (es.map (fun p => g p.1)).Nodup := by
    rw [List.nodup_iff_pairwise_ne, List.pairwise_map]
    have : es.Pairwise (fun p q => p ∈ es ∧ q ∈ es ∧ p.1 ≠ q.1) := by
      refine List.Pairwise.imp_of_mem ?_ hp
      intro a b ha hb hab
      exact ⟨ha, hb, hab⟩
    refine List.Pairwise.imp_of_mem ?_ this
    rintro a b _ _ ⟨ha, hb, hab⟩ e
    obtain ⟨la, ea⟩ := hs a ha
    obtain ⟨lb, eb⟩ := hs b hb
    have h1 := hhas a ha
    have h2 := hhas b hb
    rw [ea, eb] at e hab
    rw [ea] at h1
    rw [eb] at h2
    have e' : f la = f lb := by
      have : Lit.string (f la) = Lit.string (f lb) := e
      injection this
    exact hab (by rw [hinj la lb h1 h2 e'])
  have hsub : es.map (fun p => g p.1) ⊆ fs.map (fun p => p.1) := by
    intro k hk
    obtain ⟨p, hp', rfl⟩ := List.mem_map.1 hk
    obtain ⟨l, e⟩ := hs p hp'
    have h1 := hhas p hp'
    rw [e] at h1
    obtain ⟨q, hq', hs'⟩ := List.any_eq_true.1 (hf l h1)
    have : q.1 = .string (f l) := WideAt.sameKey_eq hs'
    refine List.mem_map.2 ⟨q, hq', ?_⟩
    rw [this, e]
  have := hnd.length_le_of_subset hsub
  simpa [size] using this

/-- a map with entries has a key -/
theorem size_pos_iff {D : DataW Unit} (hD : Good D) : 0 < size D ↔ ∃ l, has D (.string l) = true := by
  obtain ⟨es, rfl, hp, hs⟩ := hD
  constructor
  · intro h
    match es, h with
    | p :: r, _ =>
      obtain ⟨l, e⟩ := hs p (by simp)
      exact ⟨l, List.any_eq_true.2 ⟨p, by simp, by rw [e]; exact WideAt.sameKey_self (key_lit l)⟩⟩
  · rintro ⟨l, h⟩
    obtain ⟨p, hp, _⟩ := List.any_eq_true.1 h
    exact List.length_pos_of_mem hp

/-- Dout HOLDS, UNDER THE NAME WITHOUT THE PREFIX, JUST THOSE ENTRIES OF D0 WITH THE PREFIX THAT ARE NO LONGER TO COME. -/
def AgreeX (Dout D0 : DataW Unit) (left : Lit → Bool) : Prop :=
  (∀ l, has Dout (.string l) = (has D0 (.string (PFX ++ l)) && !left (.string (PFX ++ l)))) ∧ ∀ l z, has Dout (.string l) = true → Dout.atKey (.string l) z = D0.atKey (.string (PFX ++ l)) z

theorem agreeX_start (D0 : DataW Unit) : AgreeX (.map []) D0 (has D0) := ⟨fun l => by cases has D0 (.string (PFX ++ l)) <;> rfl, fun l z h => by cases h⟩

/-- an entry without the lead has come -/
theorem agreeX_miss {Dout D0 : DataW Unit} {left : Lit → Bool} {x : List UInt8} (hA : AgreeX Dout D0 left) (hx : PFX.isPrefixOf x = false) : AgreeX Dout D0 (fun z => left z && !z.sameKey (.string x)) := by
  refine ⟨fun l => ?_, hA.2⟩
  have hne : (Lit.string (PFX ++ l)) ≠ .string x := by
    intro e
    injection e with e
    rw [← e] at hx
    have : PFX.isPrefixOf (PFX ++ l) = true := List.isPrefixOf_iff_prefix.2 (List.prefix_append _ _)
    rw [this] at hx
    cases hx
  dsimp only
  rw [hA.1 l, sameKey_ne hne]
  simp

/-- an entry with the lead has come, and is laid into Dout under the rest of its name -/
theorem agreeX_hit {Dout D0 : DataW Unit} {left : Lit → Bool} {t : List UInt8} {d : DataW Unit} (hA : AgreeX Dout D0 left) (hm : IsMap Dout) (hat : ∀ zd, D0.atKey (.string (PFX ++ t)) zd = d) :
    AgreeX (Dout.put (.string t) d) D0 (fun z => left z && !z.sameKey (.string (PFX ++ t))) := by
  refine ⟨fun l => ?_, fun l z h => ?_⟩
  · dsimp only
    by_cases e : l = t
    · subst e
      rw [has_put_same hm (key_lit l), has_true_of_atKey hat, WideAt.sameKey_self (key_lit _)]
      simp
    · have h1 : (Lit.string l) ≠ .string t := fun q => e (by injection q)
      have h2 : (Lit.string (PFX ++ l)) ≠ .string (PFX ++ t) := fun q => e (by injection q with q; exact List.append_cancel_left q)
      rw [has_put_other h1, hA.1 l, sameKey_ne h2]
      simp
  · by_cases e : l = t
    · subst e
      rw [atKey_put_same hm (key_lit l), hat]
    · have h1 : (Lit.string l) ≠ .string t := fun q => e (by injection q)
      rw [has_put_other h1] at h
      rw [atKey_put_other h1, hA.2 l z h]

/-- nothing is left to come -/
theorem agreeX_end {Dout D0 : DataW Unit} {left : Lit → Bool} (hA : AgreeX Dout D0 left) (hl : ∀ k, left k = false) :
    (∀ l, has Dout (.string l) = has D0 (.string (PFX ++ l))) ∧ ∀ l z, Dout.atKey (.string l) z = D0.atKey (.string (PFX ++ l)) z := by
  have h1 : ∀ l, has Dout (.string l) = has D0 (.string (PFX ++ l)) := fun l => by rw [hA.1 l, hl]; simp
  refine ⟨h1, fun l z => ?_⟩
  cases h : has Dout (.string l)
  · rw [atKey_of_not_has h, atKey_of_not_has (by rw [← h1]; exact h)]
  · exact hA.2 l z h

/-- the rest of a name behind the lead -/
theorem prefix_split {x : List UInt8} (h : PFX.isPrefixOf x = true) : x = PFX ++ x.drop 13 := by
  obtain ⟨t, rfl⟩ := List.isPrefixOf_iff_prefix.1 h
  rfl

/-- the first k pairs laid into a map, a later one over an earlier one -/
def recs (ks vs : List ByteArray) : Nat → DataW Unit
  | 0 => .map []
  | k + 1 => (recs ks vs k).put (kOf (ks.getD k ByteArray.empty)) (dOf (vs.getD k ByteArray.empty))

theorem good_recs (ks vs : List ByteArray) : ∀ k, Good (recs ks vs k)
  | 0 => good_empty
  | k + 1 => (good_recs ks vs k).put _ _

end Go.Proofs.Qxb6001204aMods
