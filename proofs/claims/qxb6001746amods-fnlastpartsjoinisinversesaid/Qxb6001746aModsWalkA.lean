/- Contracts of seat b6001746aM: zzBytes_.. (24, 27), indexOf_jinjaB1 (19), lastParts (34), ZZlastParts (25). -/
import Derived.Test.Qxb6001746aModsShelf
import Derived.Test.Qxb6001746aModsPlain
import Derived.WalkKit
import Derived.Lib.IndexBytes
import Derived.WalkSpells
namespace Go.Proofs.Qxb6001746aMods
open Go.RowKit
set_option linter.unusedVariables false

/-- a bool comes back, whichever -/
def RetBool (e : Ending) : Prop := ∃ t : Bool, e = .returned (.bool t)
theorem RetBool.mk (t : Bool) : RetBool (.returned (.bool t)) := ⟨t, rfl⟩

theorem bytes24_any (s sep : ByteArray) (limit : Int) (w : World) (h1 : s.size ≤ maxLen) (h2 : sep.size ≤ maxLen) :
    Calls Trym.prog 24 #[.string s, .string sep, .int .i64 limit] w fun e w' => RetBool e ∧ w = w' := by
  unfold maxLen at h1 h2
  go_enter Trym.func24, Trym.ntmps24
  go_wp2
  all_goals
    go_ret
    exact ⟨RetBool.mk _, rfl⟩

theorem bytes27_any (s sep : ByteArray) (limit : Int) (w : World) (h1 : s.size ≤ maxLen) (h2 : sep.size ≤ maxLen) :
    Calls Trym.prog 27 #[.string s, .string sep, .int .i64 limit] w fun e w' => RetBool e ∧ w = w' := by
  unfold maxLen at h1 h2
  go_enter Trym.func27, Trym.ntmps27
  go_wp2
  all_goals
    go_ret
    exact ⟨RetBool.mk _, rfl⟩

/-- the naive scan finds nothing where sep stands nowhere -/
theorem indexOf_none (s sep : ByteArray) (w : World) (h1 : s.size ≤ 1048576) (h2 : sep.size ≤ 1048576) (h3 : 0 < sep.size) (hn : NoOcc s.data.toList sep.data.toList) :
    Calls Trym.prog 19 #[.string s, .string sep] w fun e w' => e = .returned (.int .i64 (-1)) ∧ w = w' := by
  have hz : ((sep.size : Int) == 0) = false := by rw [beq_eq_false_iff_ne]; omega
  have HN : Hid (∀ k : Nat, k + sep.size ≤ s.size → ((s.extract k (k + sep.size)).toList == sep.toList) = false) := by
    intro k hk
    rw [← Lib.occ_of_piece s sep k hk]
    exact hn k
  clear hn
  go_enter Trym.func19, Trym.ntmps19
  go_wp2
  go_loop [5] (fun i => ∃ k : Nat, k ≤ s.size + 1 ∧ i = .int .i64 k) (fun i => s.size + 1 - (intOf i).toNat)
  case atStart => exact ⟨0, by omega, rfl⟩
  case round =>
    obtain ⟨k, hk, rfl⟩ := hrel
    by_cases hlt : k + sep.size ≤ s.size
    · have he := HN.out k hlt
      clear HN
      have hlt' : (k : Int) + (sep.size : Int) ≤ (s.size : Int) := by omega
      go_wp2
      go_round
      case rel => exact ⟨k + 1, by omega, by go_num⟩
      case measure => simp [intOf]; omega
    · clear HN
      have hlt' : ¬ (k : Int) + (sep.size : Int) ≤ (s.size : Int) := by omega
      go_wp2
      go_ret
      exact ⟨rfl, rfl⟩

end Go.Proofs.Qxb6001746aMods
