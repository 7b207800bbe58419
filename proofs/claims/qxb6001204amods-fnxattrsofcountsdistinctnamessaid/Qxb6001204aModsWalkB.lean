/- zzCloneB1 (8) of seat b6001204aM. -/
import Derived.Test.Qxb6001204aModsWalkA
import Derived.Deep.OwnRows
import Derived.WalkSpells
import Derived.WalkLawsBesides
namespace Go.Proofs.Qxb6001204aMods
open Go.RowKit

theorem Trym.info9 : (Trym.prog.info? 9).map (fun i => (i.zero, i.size, i.bytes)) = some (some (.string ByteArray.empty), 1, 16) := by kernel_rfl

set_option maxHeartbeats 400000 in
theorem clone_any (a : Option Addr) (len cap : Nat) (ss : List ByteArray) (w : World) (hl : len ≤ 4096) (hc : StrsAt w a len ss) :
    Calls Trym.prog 8 #[.slice a len cap] w fun e w' => ∃ a2 cap2, e = .returned (.slice a2 len cap2) ∧ StrsAt w' a2 len ss ∧ Below w.heap.size w w' := by
  have qs : ∀ (w : World) (a : Option Addr) (n c : Nat), (binOp .eql 22 (.slice a n c) (.slice none 0 0)).run Trym.prog w = .ok (.bool a.isNone) w := fun w a n c => Lib.run_eql_slice_nil w _ _ a n c 0 0 Trym.underlying22
  cases a with
  | none =>
    have h0 : len = 0 := by
      by_cases h : len = 0
      · exact h
      · obtain ⟨b, off, e, _⟩ := hc 0 (by omega)
        cases e
    subst h0
    clear hc
    go_enter Trym.func8, Trym.ntmps8
    go_wp2
    go_ret
    exact ⟨none, 0, rfl, fun j hj => absurd hj (by omega), Below.refl _ _⟩
  | some ad =>
    have hmk := fun (w : World) => run_make_row' (P := Trym.prog) 22 9 (.string ByteArray.empty) 16 Trym.underlying22 Trym.info9 rfl .i64 .i64 len (by omega) (by omega) w
    go_enter Trym.func8, Trym.ntmps8
    go_wp2
    go_loopw [4] (fun i wr => ∃ k : Nat, k ≤ len ∧ i = .int .i64 k ∧ wr.rowIs w.heap.size 9 len (fun j => .string (if j < k then ss.getD j ByteArray.empty else ByteArray.empty)) ∧ Below w.heap.size w wr) (fun i _ => len - (intOf i).toNat)
    case atStart =>
      exact ⟨0, Nat.zero_le _, rfl, (World.rowIs_made w (.string ByteArray.empty) len 9).congr (fun j _ => by simp), (Below.refl _ _).alloc (Nat.le_refl _) _⟩
    case round =>
      obtain ⟨k, hk, rfl, hrow, hnx⟩ := hrel
      by_cases hlt : k < len
      · obtain ⟨b, off, e, hb, hcx0⟩ := hc k hlt
        cases e
        have hcx : wr.cell? ⟨b, off + k, none⟩ = some (.string (ss.getD k ByteArray.empty)) := (hnx.cell (by exact hb)).trans hcx0
        have hset := hrow.set k (.string (ss.getD k ByteArray.empty))
        have hrow' := hset.congr (g := fun j => .string (if j < k + 1 then ss.getD j ByteArray.empty else ByteArray.empty)) (fun j _ => by
          by_cases h1 : j = k
          · subst h1; simp
          · by_cases h2 : j < k
            · simp [h1, h2, show j < k + 1 from by omega]
            · simp [h1, h2, show ¬ j < k + 1 from by omega])
        have hcw := hrow.cell hlt
        have hfr := hrow.frozen k
        generalize ss.getD k ByteArray.empty = s at hcx hset hrow'
        clear hc hcx0 hset hmk
        go_wp2
        go_roundw
        case rel => exact ⟨k + 1, by omega, by go_num, hrow', hnx.setCell (Nat.le_refl _) _⟩
        case measure => simp [intOf]; omega
      · have : k = len := by omega
        subst this
        clear hc hmk
        go_wp2
        go_ret
        refine ⟨_, _, rfl, fun j hj => ⟨w.heap.size, 0, rfl, hrow.lt, ?_⟩, hnx⟩
        have := hrow.cell hj
        rw [if_pos hj] at this
        rw [Nat.zero_add]
        exact this

end Go.Proofs.Qxb6001204aMods
