import Derived.Test.YbulkabpeRows
import Derived.WalkKit
import Derived.WalkSpells
import Derived.WalkLawsBesides
import Derived.ProofKit
import Derived.Below
import Derived.RegionTactic
import Derived.Deep.QuietTactic
import Derived.BigQuiet
import Derived.Deep.Draws
namespace Go.Proofs.Ybulkabpe.Small
open Go.RowKit
set_option linter.unusedVariables false
set_option linter.unusedSimpArgs false

theorem blen (a : Option Addr) (n c : Nat) (w : World) : Calls Yba.prog 5 #[.slice a n c] w fun e w' => e = .returned (.int .i64 ((min n 127 : Nat) : Int)) ∧ w' = w := by
  by_cases h : (127 : Int) < n
  · have e : min n 127 = 127 := by omega
    rw [e]
    go_enter Yba.func5, Yba.ntmps5
    go_wp2
    go_ret
    exact ⟨rfl, rfl⟩
  · have e : min n 127 = n := by omega
    rw [e]
    go_enter Yba.func5, Yba.ntmps5
    go_wp2
    go_ret
    exact ⟨rfl, rfl⟩

theorem btag (x : Int) (h0 : 0 ≤ x) (h1 : x < 256) (w : World) : Calls Yba.prog 6 #[.int .u8 x] w fun e w' => e = .returned (.int .u8 (1 + x % 30)) ∧ w' = w := by
  go_enter Yba.func6, Yba.ntmps6
  go_wp2
  go_ret
  exact ⟨rfl, rfl⟩

set_option maxHeartbeats 400000 in
theorem beq_empty (a1 a2 : Option Addr) (c1 c2 : Nat) (w : World) : Calls Yba.prog 8 #[.slice a1 0 c1, .slice a2 0 c2] w fun e w' => e = .returned (.bool true) ∧ ∃ m, w' = w.drewN m := by
  go_enter Yba.func8, Yba.ntmps8
  go_wp2
  refine wp_loop_rounds 1 ?_
  rw [rounds_succ]
  go_wp2
  go_ret
  exact ⟨rfl, 0, rfl⟩

set_option maxHeartbeats 400000 in
theorem beq_some (b1 o1 b2 o2 n c1 c2 : Nat) (z : Nat → Int) (hn : n ≤ 127) (w : World)
    (h1 : ∀ j, j < n → w.cell? ⟨b1, o1 + j, none⟩ = some (.int .u8 (z j))) (h2 : ∀ j, j < n → w.cell? ⟨b2, o2 + j, none⟩ = some (.int .u8 (z j))) :
    Calls Yba.prog 8 #[.slice (some ⟨b1, o1, none⟩) n c1, .slice (some ⟨b2, o2, none⟩) n c2] w fun e w' => e = .returned (.bool true) ∧ ∃ m, w' = w.drewN m := by
  go_enter Yba.func8, Yba.ntmps8
  go_wp2
  go_loopw [5] (fun i wr => ∃ k : Nat, k ≤ n ∧ i = .int .i64 k ∧ ∃ m, wr = w.drewN m) (fun i _ => n - (intOf i).toNat)
  case atStart => exact ⟨0, Nat.zero_le _, rfl, 0, rfl⟩
  case round =>
    obtain ⟨k, hk, rfl, m, rfl⟩ := hrel
    by_cases hlt : k < n
    · have g1 := h1 k hlt
      have g2 := h2 k hlt
      have l1 : (k : Int) < (n : Int) := by omega
      have l0 : (0 : Int) ≤ (k : Int) := by omega
      clear h1 h2
      go_wp2
      go_quiet (fail)
      go_wp2
      go_roundw
      case rel => exact ⟨k + 1, by omega, by go_num, _, rfl⟩
      case measure => simp [intOf]; omega
    · go_wp2
      go_ret
      exact ⟨rfl, m, rfl⟩
end Go.Proofs.Ybulkabpe.Small
