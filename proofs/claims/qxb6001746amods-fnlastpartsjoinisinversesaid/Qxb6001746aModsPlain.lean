/- The plain law of lastParts: no Go in sight. -/
import Derived.Lib.LastIndexLaws
import Derived.RowKit
namespace Go.Proofs.Qxb6001746aMods
open Go.RowKit Go.Lib

/-- sep stands nowhere in s -/
def NoOcc (s sep : List UInt8) : Prop := ∀ i, occAt s sep i = false

theorem noOcc_of {s sep : List UInt8} (h0 : sep ≠ []) (h : ∀ i, i + sep.length ≤ s.length → occAt s sep i = false) : NoOcc s sep := by
  intro i
  by_cases c : i + sep.length ≤ s.length
  · exact h i c
  · cases ho : occAt s sep i
    · rfl
    · rcases occAt_room ho with r | r
      · exact absurd r c
      · exact absurd r h0

/-- the last sep: none; or at i, and none behind it -/
theorem lastIndex_cases (s sep : List UInt8) (h0 : sep ≠ []) :
    (lastIndex s sep = -1 ∧ NoOcc s sep) ∨ ∃ i : Nat, lastIndex s sep = i ∧ i + sep.length ≤ s.length ∧ s = s.take i ++ (sep ++ s.drop (i + sep.length)) ∧ NoOcc (s.drop (i + sep.length)) sep := by
  unfold lastIndex
  by_cases c : sep.length ≤ s.length
  · rw [if_pos c]
    rcases lastOcc_spec s sep (s.length - sep.length + 1) with ⟨e, hn⟩ | ⟨i, hi, e, ho, hn⟩
    · exact Or.inl ⟨e, noOcc_of h0 (fun i hi => hn i (by omega))⟩
    · refine Or.inr ⟨i, e, by omega, ?_, ?_⟩
      · obtain ⟨t, ht⟩ := List.isPrefixOf_iff_prefix.1 ho
        have h1 : s.drop (i + sep.length) = t := by
          rw [← List.drop_drop, ← ht, List.drop_left]
        rw [h1, ht, List.take_append_drop]
      · refine noOcc_of h0 (fun j hj => ?_)
        have hl : 0 < sep.length := by
          cases sep with
          | nil => exact absurd rfl h0
          | cons a t => simp
        rw [List.length_drop] at hj
        have := hn (i + sep.length + j) (by omega) (by omega)
        unfold occAt at this ⊢
        rw [List.drop_drop]
        exact this
  · rw [if_neg c]
    exact Or.inl ⟨rfl, noOcc_of h0 (fun i hi => absurd hi (by omega))⟩

/-- what the rounds keep: s is what is left and, behind it, each part with a sep ahead; no part holds sep; no more parts than the limit -/
structure Inv (s sep s1 : List UInt8) (ts : List (List UInt8)) (limit : Int) : Prop where
  glue : s = s1 ++ (ts.reverse.flatMap fun t => sep ++ t)
  tails : ∀ t ∈ ts, NoOcc t sep
  few : 0 ≤ limit → (ts.length : Int) ≤ limit
  short : ts.length + s1.length ≤ s.length

theorem inv_start (s sep : List UInt8) (limit : Int) : Inv s sep s [] limit := ⟨by simp, by simp, by simp, by simp⟩

theorem inv_step {s sep s1 : List UInt8} {ts : List (List UInt8)} {limit : Int} {i : Nat} (h : Inv s sep s1 ts limit) (h0 : sep ≠ []) (hl : 0 ≤ limit → (ts.length : Int) ≠ limit) (hi : i + sep.length ≤ s1.length)
    (hs : s1 = s1.take i ++ (sep ++ s1.drop (i + sep.length))) (hn : NoOcc (s1.drop (i + sep.length)) sep) : Inv s sep (s1.take i) (ts ++ [s1.drop (i + sep.length)]) limit := by
  have hp : 0 < sep.length := by
    cases sep with
    | nil => exact absurd rfl h0
    | cons a t => simp
  refine ⟨?_, ?_, ?_, ?_⟩
  · rw [List.reverse_append, List.reverse_singleton, List.singleton_append, List.flatMap_cons, ← List.append_assoc, ← hs]
    exact h.glue
  · intro t ht
    rcases List.mem_append.1 ht with q | q
    · exact h.tails t q
    · rw [List.mem_singleton.1 q]; exact hn
  · intro hz
    have h1 := h.few hz
    have h2 := hl hz
    rw [List.length_append, List.length_singleton]
    omega
  · have := h.short
    rw [List.length_append, List.length_singleton, List.length_take]
    omega

/-- the counter 'limit' behind k rounds -/
def LimOK (limit : Int) (k : Nat) (L : Int) : Prop :=
  (0 ≤ limit → L = limit - k ∧ 0 ≤ L) ∧ (limit < 0 → L ≠ 0 ∧ (L = limit - k ∨ L = limit - k + 18446744073709551616) ∧ -9223372036854775808 ≤ L ∧ L ≤ 9223372036854775807)

theorem limOK_start (limit : Int) (h1 : -9223372036854775808 ≤ limit) (h2 : limit ≤ 9223372036854775807) : LimOK limit 0 limit :=
  ⟨fun h => ⟨by omega, h⟩, fun h => ⟨by omega, Or.inl (by omega), h1, h2⟩⟩

theorem limOK_step {limit : Int} {k : Nat} {L : Int} (h : LimOK limit k L) (hL : L ≠ 0) (hk : k ≤ 1048576) (h1 : -9223372036854775808 ≤ limit) (h2 : limit ≤ 9223372036854775807) : LimOK limit (k + 1) (wrap64 (L - 1)) := by
  unfold wrap64
  obtain ⟨ha, hb⟩ := h
  refine ⟨fun hz => ?_, fun hz => ?_⟩
  · obtain ⟨e1, e2⟩ := ha hz
    constructor <;> omega
  · obtain ⟨e1, e2, e3, e4⟩ := hb hz
    refine ⟨?_, ?_, ?_, ?_⟩ <;> omega

theorem limOK_zero {limit : Int} {k : Nat} (h : LimOK limit k 0) : limit = k := by
  by_cases hz : 0 ≤ limit
  · have := h.1 hz; omega
  · exact absurd rfl (h.2 (by omega)).1

/-- what lastParts hands back -/
structure Parts (s sep s1 : List UInt8) (ts : List (List UInt8)) (limit : Int) : Prop where
  glue : s = s1 ++ (ts.flatMap fun t => sep ++ t)
  tails : ∀ t ∈ ts, NoOcc t sep
  few : 0 ≤ limit → (ts.length : Int) ≤ limit
  first : (limit < 0 ∨ (ts.length : Int) < limit) → NoOcc s1 sep
  short : ts.length + s1.length ≤ s.length

theorem parts_used {s sep s1 : List UInt8} {ts : List (List UInt8)} {limit : Int} (h : Inv s sep s1 ts limit) (hl : limit = ts.length) : Parts s sep s1 ts.reverse limit :=
  ⟨h.glue, fun t ht => h.tails t (List.mem_reverse.1 ht), by simpa using h.few, fun q => by rw [List.length_reverse] at q; omega, by simpa using h.short⟩

theorem parts_none {s sep s1 : List UInt8} {ts : List (List UInt8)} {limit : Int} (h : Inv s sep s1 ts limit) (hn : NoOcc s1 sep) : Parts s sep s1 ts.reverse limit :=
  ⟨h.glue, fun t ht => h.tails t (List.mem_reverse.1 ht), by simpa using h.few, fun _ => hn, by simpa using h.short⟩

end Go.Proofs.Qxb6001746aMods
