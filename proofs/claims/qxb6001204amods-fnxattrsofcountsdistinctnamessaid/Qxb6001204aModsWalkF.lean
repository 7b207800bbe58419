/- zzBytes_.. (11, 14) and zzHasPrefixB1 (13) of seat b6001204aM. -/
import Derived.Test.Qxb6001204aModsWalkE
namespace Go.Proofs.Qxb6001204aMods
open Go.RowKit Go.WideMaps Go.Maps
set_option linter.unusedVariables false

set_option maxHeartbeats 1000000 in
theorem bytes11_any (a0 : Option Addr) (len0 cap0 : Nat) (ss0 : List ByteArray) (a1 : Option Addr) (len1 cap1 : Nat) (ss1 : List ByteArray) (w : World) (hl0 : len0 ≤ 9223372036854775807) (hc0 : StrsAt w a0 len0 ss0) (hs0 : Short ss0) (hl1 : len1 ≤ 9223372036854775807) (hc1 : StrsAt w a1 len1 ss1) (hs1 : Short ss1) :
    Calls Trym.prog 11 #[.slice a0 len0 cap0, .slice a1 len1 cap1] w fun e w' => RetBool e ∧ w = w' := by
  go_enter Trym.func11, Trym.ntmps11
  go_wp2
  · go_ret
    exact ⟨RetBool.mk _, rfl⟩
  · go_loop [5, 6] (fun t i => ∃ (k : Nat) (x : Int), k ≤ len0 ∧ i = .int .i64 k ∧ t = .int .i64 x ∧ 0 ≤ x ∧ x ≤ 1048576) (fun _ i => len0 - (intOf i).toNat)
    case atStart => exact ⟨0, _, Nat.zero_le _, rfl, rfl, by omega, by omega⟩
    case round =>
      obtain ⟨k, x, hk, rfl, rfl, hx0, hx1⟩ := hrel
      by_cases hlt : k < len0
      · obtain ⟨b, off, rfl, _, hcx0⟩ := hc0 k hlt
        have hss := hs0 k
        generalize ss0.getD k ByteArray.empty = s at hcx0 hss
        unfold maxLen at hss
        clear hc0 hs0 hc1 hs1
        go_wp2
        · go_ret
          exact ⟨RetBool.mk _, rfl⟩
        · go_ret
          exact ⟨RetBool.mk _, rfl⟩
        · go_round
          case rel => exact ⟨k + 1, _, by omega, by go_num, rfl, by omega, by omega⟩
          case measure => simp [intOf]; omega
      · clear hc0 hs0
        go_wp2
        · go_ret
          exact ⟨RetBool.mk _, rfl⟩
        · go_ret
          exact ⟨RetBool.mk _, rfl⟩
        · go_loop [5, 7] (fun t i => ∃ (k : Nat) (x : Int), k ≤ len1 ∧ i = .int .i64 k ∧ t = .int .i64 x ∧ 0 ≤ x ∧ x ≤ 1048576) (fun _ i => len1 - (intOf i).toNat)
          case atStart => exact ⟨0, _, Nat.zero_le _, rfl, rfl, by omega, by omega⟩
          case round =>
            obtain ⟨k, x, hk, rfl, rfl, hx0, hx1⟩ := hrel
            by_cases hlt : k < len1
            · obtain ⟨b, off, rfl, _, hcx0⟩ := hc1 k hlt
              have hss := hs1 k
              generalize ss1.getD k ByteArray.empty = s at hcx0 hss
              unfold maxLen at hss
              clear hc1 hs1
              go_wp2
              · go_ret
                exact ⟨RetBool.mk _, rfl⟩
              · go_ret
                exact ⟨RetBool.mk _, rfl⟩
              · go_round
                case rel => exact ⟨k + 1, _, by omega, by go_num, rfl, by omega, by omega⟩
                case measure => simp [intOf]; omega
            · clear hc1 hs1
              go_wp2
              all_goals
                go_ret
                exact ⟨RetBool.mk _, rfl⟩

set_option maxHeartbeats 1000000 in
theorem bytes14_any (a0 : Option Addr) (len0 cap0 : Nat) (ss0 : List ByteArray) (a1 : Option Addr) (len1 cap1 : Nat) (ss1 : List ByteArray) (a2 : Option Addr) (len2 cap2 : Nat) (ss2 : List ByteArray) (w : World) (hl0 : len0 ≤ 9223372036854775807) (hc0 : StrsAt w a0 len0 ss0) (hs0 : Short ss0) (hl1 : len1 ≤ 9223372036854775807) (hc1 : StrsAt w a1 len1 ss1) (hs1 : Short ss1) (hl2 : len2 ≤ 9223372036854775807) (hc2 : StrsAt w a2 len2 ss2) (hs2 : Short ss2) :
    Calls Trym.prog 14 #[.slice a0 len0 cap0, .slice a1 len1 cap1, .slice a2 len2 cap2] w fun e w' => RetBool e ∧ w = w' := by
  go_enter Trym.func14, Trym.ntmps14
  go_wp2
  · go_ret
    exact ⟨RetBool.mk _, rfl⟩
  · go_loop [7, 8] (fun t i => ∃ (k : Nat) (x : Int), k ≤ len0 ∧ i = .int .i64 k ∧ t = .int .i64 x ∧ 0 ≤ x ∧ x ≤ 1048576) (fun _ i => len0 - (intOf i).toNat)
    case atStart => exact ⟨0, _, Nat.zero_le _, rfl, rfl, by omega, by omega⟩
    case round =>
      obtain ⟨k, x, hk, rfl, rfl, hx0, hx1⟩ := hrel
      by_cases hlt : k < len0
      · obtain ⟨b, off, rfl, _, hcx0⟩ := hc0 k hlt
        have hss := hs0 k
        generalize ss0.getD k ByteArray.empty = s at hcx0 hss
        unfold maxLen at hss
        clear hc0 hs0 hc1 hs1 hc2 hs2
        go_wp2
        · go_ret
          exact ⟨RetBool.mk _, rfl⟩
        · go_ret
          exact ⟨RetBool.mk _, rfl⟩
        · go_round
          case rel => exact ⟨k + 1, _, by omega, by go_num, rfl, by omega, by omega⟩
          case measure => simp [intOf]; omega
      · clear hc0 hs0
        go_wp2
        · go_ret
          exact ⟨RetBool.mk _, rfl⟩
        · go_ret
          exact ⟨RetBool.mk _, rfl⟩
        · go_loop [7, 9] (fun t i => ∃ (k : Nat) (x : Int), k ≤ len1 ∧ i = .int .i64 k ∧ t = .int .i64 x ∧ 0 ≤ x ∧ x ≤ 1048576) (fun _ i => len1 - (intOf i).toNat)
          case atStart => exact ⟨0, _, Nat.zero_le _, rfl, rfl, by omega, by omega⟩
          case round =>
            obtain ⟨k, x, hk, rfl, rfl, hx0, hx1⟩ := hrel
            by_cases hlt : k < len1
            · obtain ⟨b, off, rfl, _, hcx0⟩ := hc1 k hlt
              have hss := hs1 k
              generalize ss1.getD k ByteArray.empty = s at hcx0 hss
              unfold maxLen at hss
              clear hc1 hs1 hc2 hs2
              go_wp2
              · go_ret
                exact ⟨RetBool.mk _, rfl⟩
              · go_ret
                exact ⟨RetBool.mk _, rfl⟩
              · go_round
                case rel => exact ⟨k + 1, _, by omega, by go_num, rfl, by omega, by omega⟩
                case measure => simp [intOf]; omega
            · clear hc1 hs1
              go_wp2
              · go_ret
                exact ⟨RetBool.mk _, rfl⟩
              · go_ret
                exact ⟨RetBool.mk _, rfl⟩
              · go_loop [7, 10] (fun t i => ∃ (k : Nat) (x : Int), k ≤ len2 ∧ i = .int .i64 k ∧ t = .int .i64 x ∧ 0 ≤ x ∧ x ≤ 1048576) (fun _ i => len2 - (intOf i).toNat)
                case atStart => exact ⟨0, _, Nat.zero_le _, rfl, rfl, by omega, by omega⟩
                case round =>
                  obtain ⟨k, x, hk, rfl, rfl, hx0, hx1⟩ := hrel
                  by_cases hlt : k < len2
                  · obtain ⟨b, off, rfl, _, hcx0⟩ := hc2 k hlt
                    have hss := hs2 k
                    generalize ss2.getD k ByteArray.empty = s at hcx0 hss
                    unfold maxLen at hss
                    clear hc2 hs2
                    go_wp2
                    · go_ret
                      exact ⟨RetBool.mk _, rfl⟩
                    · go_ret
                      exact ⟨RetBool.mk _, rfl⟩
                    · go_round
                      case rel => exact ⟨k + 1, _, by omega, by go_num, rfl, by omega, by omega⟩
                      case measure => simp [intOf]; omega
                  · clear hc2 hs2
                    go_wp2
                    all_goals
                      go_ret
                      exact ⟨RetBool.mk _, rfl⟩

/-- the first k bytes are alike -/
def AlikeTo (s p : ByteArray) (k : Nat) : Prop := ∀ j, j < k → s.data.toList[j]? = p.data.toList[j]?

theorem alike_prefix {s p : ByteArray} (h : AlikeTo s p p.size) : Lib.hasPrefix s.data.toList p.data.toList = true := by
  refine List.isPrefixOf_iff_prefix.2 (List.prefix_iff_getElem?.2 ?_)
  intro j hj
  have := h j (by rw [Lib.size_eq]; exact hj)
  rw [this]
  exact List.getElem?_eq_getElem hj

theorem unlike_prefix {s p : ByteArray} {k : Nat} (hk : k < p.size) (hs : k < s.size) (h : s[k] ≠ p[k]) : Lib.hasPrefix s.data.toList p.data.toList = false := by
  cases hp : Lib.hasPrefix s.data.toList p.data.toList
  · rfl
  · have hk' : k < p.data.toList.length := by rw [← Lib.size_eq]; exact hk
    have := List.prefix_iff_getElem?.1 (List.isPrefixOf_iff_prefix.1 hp) k hk'
    have hs' : k < s.data.toList.length := by rw [← Lib.size_eq]; exact hs
    rw [List.getElem?_eq_getElem hs'] at this
    injection this with this
    exact absurd this h

set_option maxHeartbeats 1000000 in
theorem hasPrefix_any (s p : ByteArray) (w : World) (hs : s.size ≤ maxLen) (hp : p.size ≤ 4096) :
    Calls Trym.prog 13 #[.string s, .string p] w fun e w' => e = .returned (.bool (Lib.hasPrefix s.data.toList p.data.toList)) ∧ Below w.heap.size w w' := by
  unfold maxLen at hs
  by_cases hlt : s.size < p.size
  · have hf : Lib.hasPrefix s.data.toList p.data.toList = false := by
      cases h : Lib.hasPrefix s.data.toList p.data.toList
      · rfl
      · have := (List.isPrefixOf_iff_prefix.1 h).length_le
        rw [← Lib.size_eq, ← Lib.size_eq] at this
        omega
    rw [hf]
    go_enter Trym.func13, Trym.ntmps13
    go_wp2
    go_ret
    exact ⟨rfl, Below.refl _ _⟩
  · go_enter Trym.func13, Trym.ntmps13
    go_wp2
    go_loopw [5] (fun i wr => ∃ k : Nat, k ≤ p.size ∧ i = .int .i64 k ∧ AlikeTo s p k ∧ Below w.heap.size w wr) (fun i _ => p.size - (intOf i).toNat)
    case atStart => exact ⟨0, Nat.zero_le _, rfl, fun j hj => absurd hj (by omega), Below.refl _ _⟩
    case round =>
      obtain ⟨k, hk, rfl, hal, hnx⟩ := hrel
      by_cases hkp : k < p.size
      · have hks : k < s.size := by omega
        have hkp' : (k : Int) < (p.size : Int) := by omega
        have hks' : (k : Int) < (s.size : Int) := by omega
        by_cases he : s[k] = p[k]
        · have hb : ((s[k].toNat : Int) != (p[k].toNat : Int)) = false := by rw [he]; simp
          have hal' : AlikeTo s p (k + 1) := by
            intro j hj
            by_cases e : j = k
            · subst e
              have h1 : j < s.data.toList.length := by rw [← Lib.size_eq]; exact hks
              have h2 : j < p.data.toList.length := by rw [← Lib.size_eq]; exact hkp
              rw [List.getElem?_eq_getElem h1, List.getElem?_eq_getElem h2]
              exact congrArg some he
            · exact hal j (by omega)
          clear hal he
          go_wp2
          go_region
          go_wp2
          go_roundw
          case rel => exact ⟨k + 1, by omega, by go_num, hal', hnx.drew⟩
          case measure => simp [intOf]; omega
        · have hb : ((s[k].toNat : Int) != (p[k].toNat : Int)) = true := by
            rw [bne_iff_ne]
            intro e
            exact he (UInt8.toNat_inj.1 (by omega))
          have HU : Hid (Lib.hasPrefix s.data.toList p.data.toList = false) := unlike_prefix hkp hks he
          clear hal he
          go_wp2
          go_region
          go_wp2
          go_ret
          exact ⟨by rw [HU.out]; rfl, hnx.drew⟩
      · have : k = p.size := by omega
        subst this
        have HU : Hid (Lib.hasPrefix s.data.toList p.data.toList = true) := alike_prefix hal
        clear hal
        go_wp2
        go_ret
        exact ⟨by rw [HU.out]; rfl, hnx⟩

end Go.Proofs.Qxb6001204aMods
