import Derived.Test.YbulkabsySog
import Derived.OwnWalk
import Derived.Lib.SliceRun
namespace Go.Proofs.Ybulkabsy.So
open Go.RowKit Go.Sort Go.Proofs.Ybulkabsy.Srch
set_option linter.unusedVariables false
set_option linter.unusedSimpArgs false

set_option maxHeartbeats 1000000 in
/-- slices.Clone of an empty slice that is not nil. -/
theorem cloneZ (a : Addr) (c : Nat) (w : World) : Calls Yba.prog 11 #[.slice (some a) 0 c] w fun e w' => ∃ b c', e = .returned (.slice b 0 c') ∧ RowKit.Below w.heap.size w w' := by
  obtain ⟨i23, h23, z0, z1, z2⟩ := info_parts info23
  have hq : ∀ (w : World) (a : Option Addr) (n c n' c' : Nat), (binOp .eql 32 (.slice a n c) (.slice none n' c')).run Yba.prog w = .ok (.bool a.isNone) w := fun w a n c n' c' => Lib.run_eql_slice_nil w _ _ a n c n' c' Yba.underlying32
  go_enter Yba.func11, Yba.ntmps11
  go_wp2_with (at_builtin; refine wpList_append_own _ rfl _ _ 32 rfl w.heap.size 23 i23 (.int .u16 0) 1 2 Yba.underlying32 h23 z0 z1 z2 rfl (by decide) _ _ _ rfl (World.ownsRow_made w #[] 0 (Nat.le_refl _) (Nat.zero_le _) rfl) a 0 c [] rfl rfl (by intro j u hj; simp at hj) (by intro u hu; cases hu) (by unfold maxLen; omega) (by decide) (by simp) ?_; intro v' w1 hown hgrow hnil)
  go_wp2
  go_ret
  obtain ⟨hlen, h2⟩ := hown
  have hgrow2 : (w.alloc (.cells #[] 23)).grownBy w1 (some w.heap.size) := hgrow
  have hbel : RowKit.Below w.heap.size w w1 := ((Below.refl _ w).alloc (Nat.le_refl _) _).grown hgrow2 (by simp) (by intro k hk; cases hk; exact Nat.le_refl _)
  rcases h2 with ⟨h, _⟩ | ⟨g, c', cur, hv, hg, hh, hx1, hx2, hcs, ht⟩
  · subst h
    exact ⟨⟨none, 0, rfl⟩, hbel⟩
  · subst hv
    exact ⟨⟨_, _, rfl⟩, hbel⟩
end Go.Proofs.Ybulkabsy.So
