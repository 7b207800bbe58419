/- Contracts of the small functions of seat b6001204aM: zzMinB1 (12), zzSliceBytesB1 (7), zzBytes_.. (6, 11, 14). -/
import Derived.Test.Qxb6001204aModsProg
import Derived.WalkKit
namespace Go.Proofs.Qxb6001204aMods
open Go.RowKit

/-- the slice's first 'len' cells hold the strings of ss -/
def StrsAt (w : World) (a : Option Addr) (len : Nat) (ss : List ByteArray) : Prop :=
  ∀ j, j < len → ∃ b off, a = some ⟨b, off, none⟩ ∧ b < w.heap.size ∧ w.cell? ⟨b, off + j, none⟩ = some (.string (ss.getD j ByteArray.empty))

/-- the strings are no longer than Go's are -/
def Short (ss : List ByteArray) : Prop := ∀ j, (ss.getD j ByteArray.empty).size ≤ maxLen

theorem Short.of_mem {ss : List ByteArray} (h : ∀ s ∈ ss, s.size ≤ maxLen) : Short ss := by
  intro j
  by_cases hk : j < ss.length
  · rw [List.getD, List.getElem?_eq_getElem hk]; exact h _ (List.getElem_mem hk)
  · rw [List.getD, List.getElem?_eq_none (by omega)]; exact Nat.zero_le _

theorem StrsAt.below {w w' : World} {a : Option Addr} {len : Nat} {ss : List ByteArray} (h : StrsAt w a len ss) {n : Nat} (hb : Below n w w') (hn : w.heap.size ≤ n) : StrsAt w' a len ss := by
  intro j hj
  obtain ⟨b, off, e, hlt, hc⟩ := h j hj
  have hz := hb.size
  exact ⟨b, off, e, by omega, by rw [hb.cell (by show b < n; omega)]; exact hc⟩

/-- a bool comes back, whichever -/
def RetBool (e : Ending) : Prop := ∃ t : Bool, e = .returned (.bool t)
theorem RetBool.mk (t : Bool) : RetBool (.returned (.bool t)) := ⟨t, rfl⟩

theorem min_any (a b : Int) (w : World) :
    Calls Trym.prog 12 #[.int .i64 a, .int .i64 b] w fun e w' => e = .returned (.int .i64 (if a < b then a else b)) ∧ w = w' := by
  by_cases h : a < b
  · go_enter Trym.func12, Trym.ntmps12
    go_wp2
    go_ret
    exact ⟨rfl, rfl⟩
  · go_enter Trym.func12, Trym.ntmps12
    go_wp2
    go_ret
    exact ⟨rfl, rfl⟩

/-- the first k strings are of at most 2^20 bytes -/
def Small (ss : List ByteArray) (k : Nat) : Prop := ∀ j, j < k → (ss.getD j ByteArray.empty).size ≤ 1048576

set_option maxHeartbeats 400000 in
theorem sliceBytes_any (a : Option Addr) (len cap : Nat) (ss : List ByteArray) (w : World) (hl : len ≤ 9223372036854775807) (hc : StrsAt w a len ss) (hsz : Short ss) :
    Calls Trym.prog 7 #[.slice a len cap] w fun e w' => (∃ t : Int, e = .returned (.int .i64 t) ∧ 0 ≤ t ∧ t ≤ 1048577 ∧ (t ≤ 1048576 → Small ss len)) ∧ w = w' := by
  go_enter Trym.func7, Trym.ntmps7
  go_wp2
  · go_ret
    exact ⟨⟨_, rfl, by omega, by omega, fun h => absurd h (by omega)⟩, rfl⟩
  · go_loop [3, 4] (fun t i => ∃ (k : Nat) (x : Int), k ≤ len ∧ i = .int .i64 k ∧ t = .int .i64 x ∧ 0 ≤ x ∧ x ≤ 1048576 ∧ Small ss k) (fun _ i => len - (intOf i).toNat)
    case atStart => exact ⟨0, 0, Nat.zero_le _, rfl, rfl, by omega, by omega, fun j hj => absurd hj (by omega)⟩
    case round =>
      obtain ⟨k, x, hk, rfl, rfl, hx0, hx1, hsm⟩ := hrel
      by_cases hlt : k < len
      · obtain ⟨b, off, rfl, _, hcx0⟩ := hc k hlt
        have hss := hsz k
        have HS : Hid ((ss.getD k ByteArray.empty).size ≤ 1048576 → Small ss (k + 1)) := by
          intro h j hj
          by_cases e : j = k
          · subst e; exact h
          · exact hsm j (by omega)
        generalize ss.getD k ByteArray.empty = s at hcx0 hss HS
        unfold maxLen at hss
        clear hc hsz hsm
        go_wp2
        · go_ret
          exact ⟨⟨_, rfl, by omega, by omega, fun h => absurd h (by omega)⟩, rfl⟩
        · go_ret
          exact ⟨⟨_, rfl, by omega, by omega, fun h => absurd h (by omega)⟩, rfl⟩
        · go_round
          case rel => exact ⟨k + 1, _, by omega, by go_num, rfl, by omega, by omega, HS.out (by omega)⟩
          case measure => simp [intOf]; omega
      · have HS : Hid (Small ss len) := fun j hj => hsm j (by omega)
        clear hsm hc hsz
        go_wp2
        go_ret
        exact ⟨⟨_, rfl, by omega, by omega, fun _ => HS.out⟩, rfl⟩

set_option maxHeartbeats 1000000 in
theorem bytes6_any (a : Option Addr) (len cap : Nat) (ss : List ByteArray) (a' : Option Addr) (len' cap' : Nat) (ss' : List ByteArray) (nm : ByteArray) (w : World) (hl : len ≤ 9223372036854775807) (hc : StrsAt w a len ss) (hsz : Short ss)
    (hl' : len' ≤ 9223372036854775807) (hc' : StrsAt w a' len' ss') (hsz' : Short ss') (hn : nm.size ≤ maxLen) :
    Calls Trym.prog 6 #[.slice a len cap, .slice a' len' cap', .string nm] w fun e w' => RetBool e ∧ w = w' := by
  unfold maxLen at hn
  go_enter Trym.func6, Trym.ntmps6
  go_wp2
  · go_ret
    exact ⟨RetBool.mk _, rfl⟩
  · go_loop [7, 8] (fun t i => ∃ (k : Nat) (x : Int), k ≤ len ∧ i = .int .i64 k ∧ t = .int .i64 x ∧ 0 ≤ x ∧ x ≤ 1048576) (fun _ i => len - (intOf i).toNat)
    case atStart => exact ⟨0, len, Nat.zero_le _, rfl, rfl, by omega, by omega⟩
    case round =>
      obtain ⟨k, x, hk, rfl, rfl, hx0, hx1⟩ := hrel
      by_cases hlt : k < len
      · obtain ⟨b, off, rfl, _, hcx0⟩ := hc k hlt
        have hss := hsz k
        generalize ss.getD k ByteArray.empty = s at hcx0 hss
        unfold maxLen at hss
        clear hc hsz hc' hsz'
        go_wp2
        · go_ret
          exact ⟨RetBool.mk _, rfl⟩
        · go_ret
          exact ⟨RetBool.mk _, rfl⟩
        · go_round
          case rel => exact ⟨k + 1, _, by omega, by go_num, rfl, by omega, by omega⟩
          case measure => simp [intOf]; omega
      · clear hc hsz
        go_wp2
        · go_ret
          exact ⟨RetBool.mk _, rfl⟩
        · go_ret
          exact ⟨RetBool.mk _, rfl⟩
        · go_loop [7, 9] (fun t i => ∃ (k : Nat) (x : Int), k ≤ len' ∧ i = .int .i64 k ∧ t = .int .i64 x ∧ 0 ≤ x ∧ x ≤ 1048576) (fun _ i => len' - (intOf i).toNat)
          case atStart => exact ⟨0, _, Nat.zero_le _, rfl, rfl, by omega, by omega⟩
          case round =>
            obtain ⟨k, x, hk, rfl, rfl, hx0, hx1⟩ := hrel
            by_cases hlt : k < len'
            · obtain ⟨b, off, rfl, _, hcx0⟩ := hc' k hlt
              have hss := hsz' k
              generalize ss'.getD k ByteArray.empty = s at hcx0 hss
              unfold maxLen at hss
              clear hc' hsz'
              go_wp2
              · go_ret
                exact ⟨RetBool.mk _, rfl⟩
              · go_ret
                exact ⟨RetBool.mk _, rfl⟩
              · go_round
                case rel => exact ⟨k + 1, _, by omega, by go_num, rfl, by omega, by omega⟩
                case measure => simp [intOf]; omega
            · clear hc' hsz'
              go_wp2
              all_goals
                go_ret
                exact ⟨RetBool.mk _, rfl⟩

end Go.Proofs.Qxb6001204aMods
