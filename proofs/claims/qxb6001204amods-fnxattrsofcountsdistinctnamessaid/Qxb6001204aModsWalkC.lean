/- zzRecordsB1 (9) of seat b6001204aM. -/
import Derived.Test.Qxb6001204aModsWalkB
import Derived.Maps.OwnSet
import Derived.Maps.RangeWalk
import Derived.Test.Qxb6001204aModsPlain
namespace Go.Proofs.Qxb6001204aMods
open Go.RowKit Go.WideMaps Go.Maps
set_option linter.unusedVariables false

theorem law : Keyed Trym.prog 9 := string_keyed Trym.underlying9
theorem zero9 (w : World) : (zeroValue 9).run Trym.prog w = .ok (.string ByteArray.empty) w := by kernel_rfl

theorem run_mk26 (n : Int) (w : World) : (Instr.makeMap 26 (some (.int .i64 n))).run Trym.prog w = .ok (.map (some w.heap.size)) (w.alloc (.map #[] 0)) := by
  simp [Instr.makeMap, run_underlying Trym.underlying26, go_sem]

set_option maxHeartbeats 400000 in
theorem records_any (a : Option Addr) (len cap : Nat) (ks : List ByteArray) (a' : Option Addr) (len' cap' : Nat) (vs : List ByteArray) (w : World) (hl : len ≤ 4096) (hc : StrsAt w a len ks) (hs : Short ks) (hl' : len' ≤ 4096) (hc' : StrsAt w a' len' vs) (hs' : Short vs) :
    Calls Trym.prog 9 #[.slice a len cap, .slice a' len' cap'] w fun e w' => e = .returned (.map (some w.heap.size)) ∧ w'.ownsMap Trym.prog 9 (plainElem Trym.prog 9) w.heap.size (min len len') (recs ks vs (min len len')) ∧ Below w.heap.size w w' := by
  have hmm := run_mk26
  obtain ⟨n, hn⟩ : ∃ n, n = min len len' := ⟨_, rfl⟩
  have hn1 : n ≤ len := by omega
  have hn2 : n ≤ len' := by omega
  have hmin : (if (len : Int) < (len' : Int) then (len : Int) else (len' : Int)) = (n : Int) := by
    by_cases h : (len : Int) < (len' : Int)
    · rw [if_pos h]; omega
    · rw [if_neg h]; omega
  rw [← hn]
  have HM : Hid ((if (len : Int) < (len' : Int) then (len : Int) else (len' : Int)) = (n : Int)) := hmin
  clear hmin hn
  go_enter Trym.func9, Trym.ntmps9
  go_wp2_with (go_at_call 12; refine (min_any _ _ _).mono ?_; rw [HM.out]; rintro e w' ⟨rfl, rfl⟩)
  clear hmm HM
  go_loopw [7] (fun i wr => ∃ k : Nat, k ≤ n ∧ i = .int .i64 k ∧ wr.ownsMap Trym.prog 9 (plainElem Trym.prog 9) w.heap.size k (recs ks vs k) ∧ Below w.heap.size w wr) (fun i _ => n - (intOf i).toNat)
  case atStart => exact ⟨0, Nat.zero_le _, rfl, World.ownsMap_made _ _ _ _, (Below.refl _ _).alloc (Nat.le_refl _) _⟩
  case round =>
    obtain ⟨k, hk, rfl, hown, hnx⟩ := hrel
    by_cases hlt : k < n
    · obtain ⟨b, off, rfl, hb, hk0⟩ := hc k (by omega)
      obtain ⟨b', off', rfl, hb', hv0⟩ := hc' k (by omega)
      have hk1 : wr.cell? ⟨b, off + k, none⟩ = some (.string (ks.getD k ByteArray.empty)) := (hnx.cell (by exact hb)).trans hk0
      have hv1 : wr.cell? ⟨b', off' + k, none⟩ = some (.string (vs.getD k ByteArray.empty)) := (hnx.cell (by exact hb')).trans hv0
      have hR : plainElem Trym.prog 9 (.string (vs.getD k ByteArray.empty)) = some (dOf (vs.getD k ByteArray.empty), []) := plainElem_string Trym.underlying9 (hs' k)
      obtain ⟨w1, hrun, hown1, hturn⟩ := hown.drew.store (t := 26) (e := 9) law Trym.underlying26 (by unfold maxLen; omega) (keyOf_string_mk Trym.underlying9 (hs k)) hR
      have hown2 : w1.ownsMap Trym.prog 9 (plainElem Trym.prog 9) w.heap.size (k + 1) (recs ks vs (k + 1)) := hown1
      have hnx2 : Below w.heap.size w w1 := hnx.drew.grown hturn.grown (by exact hnx.size) (fun j hj => by cases hj; exact Nat.le_refl _)
      generalize ks.getD k ByteArray.empty = s at hk1 hrun
      generalize vs.getD k ByteArray.empty = v at hv1 hrun
      clear hown1 hturn hR hown hnx hk0 hv0 hc hc' hs hs'
      go_wp2
      go_region
      go_wp2
      go_roundw
      case rel => exact ⟨k + 1, by omega, by go_num, hown2, hnx2⟩
      case measure => simp [intOf]; omega
    · have : k = n := by omega
      subst this
      clear hc hc'
      go_wp2
      go_ret
      exact ⟨rfl, hown, hnx⟩

end Go.Proofs.Qxb6001204aMods
