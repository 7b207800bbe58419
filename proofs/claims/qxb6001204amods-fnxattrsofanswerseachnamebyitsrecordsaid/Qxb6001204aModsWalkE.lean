/- xattrsOf (15) and ZZxattrsOf (10) of seat b6001204aM: 'for key, value := range records { .. }' over a map of strings, on every order. -/
import Derived.Test.Qxb6001204aModsWalkD
namespace Go.Proofs.Qxb6001204aMods
open Go.RowKit Go.WideMaps Go.Maps
set_option linter.unusedVariables false

theorem keyOf_str_inv {P : Program} {k : TypeId} (hk : P.underlying k = some .string) {key : Value} {kl : Lit} (h : keyOf P k key = some kl) : ∃ s : ByteArray, key = .string s ∧ kl = .string s.data.toList ∧ s.size ≤ maxLen := by
  cases key <;> simp [keyOf, hk, mapKey] at h
  exact ⟨_, rfl, h.2.symm, h.1⟩

/-- the range's step at string keys and string elements -/
theorem next_ss {P : Program} (w : World) {ops : Array Oper} {rest : List Oper} {o : Oper} {a : Act} {Q : Exit → Act → World → Prop}
    (hg : o.guard = none) (it : Operand) (hop : o.op = Op.next it false) (k e : TypeId) (K : Keyed P k) (hk : P.underlying k = some .string) (he : P.underlying e = some .string)
    (b r n : Nat) (D : DataW Unit) (left : Lit → Bool) (cnt : Nat) (hit : a.eval it = .pointer (some ⟨r, 0, none⟩)) (h : w.ranges P k (plainElem P e) b r n D left cnt)
    (hDone : cnt = 0 → (∀ kl, left kl = false) → wpList P ops Q rest (a.put o.dst (.tuple #[.bool false])) w)
    (hMore : ∀ (x c : ByteArray) (w' : World) (cnt' : Nat), x.size ≤ maxLen → c.size ≤ maxLen → left (kOf x) = true → (∀ zd, D.atKey (kOf x) zd = dOf c) → w'.ranges P k (plainElem P e) b r n D (fun z => left z && !z.sameKey (kOf x)) cnt' → cnt' < cnt →
      w.grownBy w' (some r) → w'.heap.size = w.heap.size → (Instr.entry (.pointer (some ⟨r, 0, none⟩))).run P w' = .ok (.tuple #[.string x, .string c]) w' → wpList P ops Q rest (a.put o.dst (.tuple #[.bool true, .string x, .string c])) w') :
    wpList P ops Q (o :: rest) a w :=
  wpList_next_ranges w hg it hop k K (plainElem P e) Value.string Value.string (fun key kl hkey => by obtain ⟨x, rfl, _⟩ := keyOf_str_inv hk hkey; exact ⟨x, rfl⟩) (fun v y hv => by obtain ⟨c, rfl, _⟩ := plainElem_string_inv he hv; exact ⟨c, rfl⟩)
    b r n D left cnt hit h hDone (fun x c kl y w' cnt' hkey hlk hv hat hrg hlt hgr hsz hen => by
      obtain ⟨x', ex, rfl, hwx⟩ := keyOf_str_inv hk hkey
      cases ex
      obtain ⟨c', ec, rfl, hwc⟩ := plainElem_string_inv he hv
      cases ec
      exact hMore x c w' cnt' hwx hwc hlk hat hrg hlt hgr hsz hen)

/-- the map that has been made so far: none yet, or one with entries -/
def Got (base : Nat) (w : World) (v : Value) (m : Nat) (D : DataW Unit) : Prop :=
  (v = .map none ∧ D = .map []) ∨ ∃ B, v = .map (some B) ∧ base < B ∧ w.ownsMap Trym.prog 9 (plainElem Trym.prog 9) B m D ∧ 0 < size D

theorem size_put_pos {D : DataW Unit} (h : Tidy D) (k : Lit) (d : DataW Unit) (hD : has D k = true → 0 < size D) : 0 < size (D.put k d) := by
  rw [size_put h]
  split
  · exact hD ‹_›
  · omega

set_option maxHeartbeats 1000000 in
theorem xattrs_any (b n : Nat) (D0 : DataW Unit) (w : World) (hown : w.ownsMap Trym.prog 9 (plainElem Trym.prog 9) b n D0) (hmax : size D0 ≤ 1000000) :
    Calls Trym.prog 15 #[.map (some b)] w fun e w' => ∃ v Dout, e = .returned v ∧ Got w.heap.size w' v (size D0) Dout ∧ AgreeX Dout D0 (fun _ => false) ∧ Below w.heap.size w w' := by
  have hmm := @run_makeMap Trym.prog
  have q26 : ∀ (w : World) (r : Option Nat), (binOp .eql 26 (.map r) (.map none)).run Trym.prog w = .ok (.bool r.isNone) w := fun w r => run_eql_map_nil w _ _ _ r Trym.underlying26
  have hbl := hown.lt
  go_enter Trym.func15, Trym.ntmps15
  go_wp2_with (first
    | (at_range; refine wpList_range_own _ rfl _ 26 rfl 9 9 law Trym.underlying26 _ b n _ rfl hown ?_; intro w0 hrg0 hg0 hs0)
    | go_in)
  go_frame
  go_loopw [3] (fun v wr => ∃ (left : Lit → Bool) (cnt : Nat) (Dout : DataW Unit), wr.ranges Trym.prog 9 (plainElem Trym.prog 9) b w.heap.size n D0 left cnt ∧ cnt ≤ size D0 ∧
      Got w.heap.size wr v (size D0 - cnt) Dout ∧ AgreeX Dout D0 left ∧ Below w.heap.size w wr)
    (fun _ wr => wr.rangeLeft b w.heap.size)
  case atStart =>
    exact ⟨_, _, .map [], hrg0, Nat.le_refl _, Or.inl ⟨rfl, rfl⟩, agreeX_start D0, (Below.refl _ _).grown hg0 (Nat.le_refl _) (fun j hj => by cases hj)⟩
  case round =>
    obtain ⟨left, cnt, Dout, hrg, hcs, hgot, hA, hnx⟩ := hrel
    go_wp2_with (first
      | (at_next; refine next_ss _ rfl _ rfl 9 9 law Trym.underlying9 Trym.underlying9 b w.heap.size n _ _ _ rfl hrg ?_ ?_)
      | go_in)
    · intro hc0 hl0
      go_wp2
      go_ret
      subst hc0
      exact ⟨_, Dout, rfl, hgot, by have e : left = fun _ => false := funext hl0
                                    rw [← e]; exact hA, hnx⟩
    · intro x c w1 cnt1 hwx hwc hlx hat hrg1 hlt hg1 hs1 hen
      have hnx1 : Below w.heap.size w w1 := hnx.grown hg1 hnx.size (fun j hj => by cases hj; exact Nat.le_refl _)
      have hw1 : w.heap.size < w1.heap.size := hrg1.lt
      cases hp : PFX.isPrefixOf x.data.toList
      · -- without the lead
        have hgot1 : Got w.heap.size w1 u3 (size D0 - cnt1) Dout := by
          rcases hgot with h | ⟨B, e, hB, ho, hz⟩
          · exact Or.inl h
          · exact Or.inr ⟨B, e, hB, (ho.kept hg1 (by intro q; cases q; omega)).mono (by omega), hz⟩
        have hA1 := agreeX_miss hA hp
        have hm := hrg1.left_eq
        have hm0 := hrg.left_eq
        have HR : Hid (w1.ranges Trym.prog 9 (plainElem Trym.prog 9) b w.heap.size n D0 (fun z => left z && !z.sameKey (kOf x)) cnt1) := hrg1
        have HM : Hid (w1.rangeLeft b w.heap.size < wr.rangeLeft b w.heap.size) := by rw [hm, hm0]; exact hlt
        have HP : Hid (PFX.isPrefixOf x.data.toList = false) := hp
        clear hat hrg1 hm hm0 hp hrg hgot hA hlx hg1 hs1
        go_wp2_with (first
          | (go_at_call 16; refine (cut_miss _ _ HP.out).mono ?_; rintro e w' ⟨rfl, rfl⟩)
          | go_in)
        go_roundw
        case rel => exact ⟨_, cnt1, Dout, HR.out, by omega, hgot1, hA1, hnx1⟩
        case measure => exact HM.out
      · -- with it
        obtain ⟨t, ht⟩ : ∃ t : ByteArray, x.data.toList = PFX ++ t.data.toList := ⟨⟨(x.data.toList.drop 13).toArray⟩, prefix_split hp⟩
        have hwt : t.size ≤ maxLen := by
          have e1 : x.size = x.data.toList.length := Lib.size_eq x
          have e2 : t.size = t.data.toList.length := Lib.size_eq t
          rw [ht, List.length_append] at e1
          omega
        have hkx : kOf x = .string (PFX ++ t.data.toList) := by unfold kOf; rw [ht]
        rw [hkx] at hat hrg1
        have hm := hrg1.left_eq
        have hm0 := hrg.left_eq
        have HM : Hid (∀ w2 : World, w2.rangeLeft b w.heap.size = cnt1 → w2.rangeLeft b w.heap.size < wr.rangeLeft b w.heap.size) := fun w2 h2 => by rw [h2, hm0]; exact hlt
        have HR := hrg1
        have HT : Hid (x.data.toList = PFX ++ t.data.toList) := ht
        rcases hgot with ⟨rfl, rfl⟩ | ⟨B, rfl, hB, ho, hz⟩
        · have hA1 := agreeX_hit hA isMap_empty hat
          have ho1 := World.ownsMap_made w1 Trym.prog 9 (plainElem (H := Unit) Trym.prog 9)
          clear hat hrg1 hm hm0 hp hrg hA hlx hg1 hs1 ht hkx
          go_wp2_with (first
            | (go_at_call 16; refine (cut_hit t _ _ HT.out).mono ?_; rintro e w' ⟨rfl, rfl⟩)
            | (at_mapUpdate; refine wpList_mapUpdate_own _ rfl _ _ _ 26 rfl 9 9 law Trym.underlying26 _ w1.heap.size 0 _ rfl ho1 (by unfold maxLen; omega) _ _ _ rfl rfl (keyOf_string_mk Trym.underlying9 hwt) _ [] (plainElem_string Trym.underlying9 hwc) ?_; intro w2 hout2 hg2; go_frame)
            | go_in)
          have hrg2 := (HR.alloc (.map #[] 0)).kept hg2 (fun e => by have := Option.some.inj e; omega) (fun e => by have := Option.some.inj e; omega)
          go_roundw
          case rel =>
            exact ⟨_, cnt1, _, hrg2, by omega, Or.inr ⟨w1.heap.size, rfl, hw1, hout2.mono (by omega), size_put_pos tidy_empty _ _ (fun h => by cases h)⟩, hA1,
              (hnx1.alloc (by omega) _).grown hg2 (by simp; omega) (fun j hj => by cases hj; omega)⟩
          case measure => exact HM.out _ hrg2.left_eq
        · have hA1 := agreeX_hit hA ho.isMap hat
          have ho1 := ho.kept hg1 (by intro q; cases q; omega)
          have htd := ho.tidy law
          have hbB : b ≠ B := by omega
          clear hat hrg1 hm hm0 hp hrg hA hlx hg1 hs1 ht hkx ho
          go_wp2_with (first
            | (go_at_call 16; refine (cut_hit t _ _ HT.out).mono ?_; rintro e w' ⟨rfl, rfl⟩)
            | (at_mapUpdate; refine wpList_mapUpdate_own _ rfl _ _ _ 26 rfl 9 9 law Trym.underlying26 _ B (size D0 - cnt) _ rfl ho1 (by unfold maxLen; omega) _ _ _ rfl rfl (keyOf_string_mk Trym.underlying9 hwt) _ [] (plainElem_string Trym.underlying9 hwc) ?_; intro w2 hout2 hg2; go_frame)
            | go_in)
          have hrg2 := HR.kept hg2 (fun e => by have := Option.some.inj e; omega) (fun e => by have := Option.some.inj e; omega)
          go_roundw
          case rel =>
            exact ⟨_, cnt1, _, hrg2, by omega, Or.inr ⟨B, rfl, hB, hout2.mono (by omega), size_put_pos htd _ _ (fun h => hz)⟩, hA1,
              hnx1.grown hg2 (by omega) (fun j hj => by cases hj; omega)⟩
          case measure => exact HM.out _ hrg2.left_eq

set_option maxHeartbeats 400000 in
theorem zzxattrs_any (b n : Nat) (D0 : DataW Unit) (w : World) (hown : w.ownsMap Trym.prog 9 (plainElem Trym.prog 9) b n D0) (hmax : size D0 ≤ 1000000) :
    Calls Trym.prog 10 #[.map (some b)] w fun e w' => ∃ v Dout, e = .returned v ∧ Got w.heap.size w' v (size D0) Dout ∧ AgreeX Dout D0 (fun _ => false) ∧ Below w.heap.size w w' := by
  go_enter Trym.func10, Trym.ntmps10
  go_wp2_with (go_at_call 15; refine (xattrs_any b n D0 _ hown hmax).mono ?_; rintro e w' ⟨v, Dout, rfl, h1, h2, h3⟩)
  go_ret
  exact ⟨v, Dout, rfl, h1, h2, h3⟩

end Go.Proofs.Qxb6001204aMods
