import Derived.Test.YbulkabsySrcu
import Derived.Sort.Row
import Derived.Sort.AssemblyPlain
import Derived.BigRegion
namespace Go.Proofs.Ybulkabsy.So
open Go.RowKit Go.Sort Go.Proofs.Ybulkabsy.Srch
set_option linter.unusedVariables false
set_option linter.unusedSimpArgs false

/-- Where the sort stands: all blocks of w but the row's stand; the row holds d. -/
def St (w w' : World) (blk off : Nat) (d : Array Int) : Prop := w.grownBy w' (some blk) ∧ Holds (Value.int .u16) w' blk off d
theorem grown_set (w : World) (b j : Nat) (u : Value) : w.grownBy (w.setCell ⟨b, j, none⟩ u) (some b) :=
  ⟨rfl, rfl, rfl, by simp [World.setCell], fun k hk hkb => Go.RowKit.Below.heap_setCell w _ _ k (fun e => hkb (by simp [e]))⟩
theorem grown_refl (w : World) (r : Option Nat) : w.grownBy w r := ⟨rfl, rfl, rfl, Nat.le_refl _, fun _ _ _ => rfl⟩
theorem grown_trans {a b c : World} {r : Option Nat} (h : a.grownBy b r) (k : b.grownBy c r) : a.grownBy c r :=
  ⟨k.os.trans h.os, k.tape.trans h.tape, k.output.trans h.output, Nat.le_trans h.size k.size, fun i hi hr => (k.block i (Nat.lt_of_lt_of_le hi h.size) hr).trans (h.block i hi hr)⟩
theorem St.refl {w : World} {blk off : Nat} {d : Array Int} (h : Holds (Value.int .u16) w blk off d) : St w w blk off d := ⟨grown_refl _ _, h⟩
theorem St.trans {a b c : World} {blk off : Nat} {d d' : Array Int} (h : St a b blk off d) (k : St b c blk off d') : St a c blk off d' := ⟨grown_trans h.1 k.1, k.2⟩
theorem St.drewN {w w' : World} {blk off : Nat} {d : Array Int} (h : St w w' blk off d) (n : Nat) : St w (w'.drewN n) blk off d := ⟨⟨h.1.os, h.1.tape, h.1.output, h.1.size, h.1.block⟩, h.2⟩
theorem St.drew {w w' : World} {blk off : Nat} {d : Array Int} (h : St w w' blk off d) : St w w'.drew blk off d := ⟨⟨h.1.os, h.1.tape, h.1.output, h.1.size, h.1.block⟩, h.2⟩
theorem St.swap {w w' : World} {blk off : Nat} {d : Array Int} (h : St w w' blk off d) (i j : Nat) (hi : i < d.size) (hj : j < d.size) :
    St w ((w'.setCell ⟨blk, off + i, none⟩ (.int .u16 d[j]!)).setCell ⟨blk, off + j, none⟩ (.int .u16 d[i]!)) blk off (swp d i j) := by
  refine ⟨grown_trans h.1 (grown_trans (grown_set _ _ _ _) (grown_set _ _ _ _)), ?_⟩
  have e := putRow_swp (Value.int .u16) w' blk off d i j hi hj
  rw [putRow_self (Value.int .u16) w' blk off d h.2] at e
  rw [e]
  exact holds_putRow (Value.int .u16) w' blk off d _ h.2 (swp_size d i j)
theorem St.cell {w w' : World} {blk off : Nat} {d : Array Int} (h : St w w' blk off d) (j : Nat) (hj : j < d.size) : w'.cell? ⟨blk, off + j, none⟩ = some (.int .u16 d[j]!) := (h.2 j hj).1
theorem St.froz {w w' : World} {blk off : Nat} {d : Array Int} (h : St w w' blk off d) (j : Nat) (hj : j < d.size) : w'.frozen? ⟨blk, off + j, none⟩ = false := (h.2 j hj).2

set_option maxRecDepth 100000 in
set_option maxHeartbeats 1000000 in
theorem rev25 (blk off n cap a b : Nat) (d : Array Int) (w : World) (hn : d.size = n) (hn2 : n ≤ 100000) (hab : a ≤ b) (hbn : b ≤ n) (hH : Holds (Value.int .u16) w blk off d) :
    Calls Yba.prog 25 #[.slice (some ⟨blk, off, none⟩) n cap, .int .i64 a, .int .i64 b] w fun e w' => e = .returned (.tuple #[]) ∧ St w w' blk off (reverseRange d a b) := by
  have H0 : Hid (St w w blk off d) := St.refl hH
  clear hH
  go_enter Yba.func25, Yba.ntmps25
  go_wp2
  go_loopw [6, 7] (fun x y wr => ∃ (i : Nat) (j : Int) (d' : Array Int), x = .int .i64 i ∧ y = .int .i64 j ∧ i ≤ n ∧ j < n ∧ -1 ≤ j ∧ (j = -1 → b = 0) ∧ d'.size = n ∧ reverseLoop i j.toNat d' = reverseRange d a b ∧ St w wr blk off d') (fun x y _ => ((intOf y) - (intOf x)).toNat)
  case atStart => exact ⟨a, (b : Int) - 1, d, rfl, rfl, by omega, by omega, by omega, by omega, hn, by unfold reverseRange; congr 1; omega, H0.out⟩
  case round =>
    clear H0
    obtain ⟨i, j0, d', rfl, rfl, hi, hj, hj1, hj0, hd', heq, hst⟩ := hrel
    have HE : Hid (reverseLoop i j0.toNat d' = reverseRange d a b) := heq
    have HS : Hid (St w wr blk off d') := hst
    by_cases hlt : (i : Int) < j0
    · obtain ⟨j, rfl⟩ := Int.eq_ofNat_of_zero_le (show 0 ≤ j0 by omega)
      have ci := hst.cell i (by omega)
      have cj := hst.cell j (by omega)
      have fi := hst.froz i (by omega)
      have fj := hst.froz j (by omega)
      have hji : ¬ j = i := by omega
      have hij : ¬ i = j := by omega
      clear hst heq
      go_wp2
      go_region
      go_wp2
      go_roundw
      case rel =>
        refine ⟨i + 1, (j : Int) - 1, swp d' i j, by go_num, by go_num, by omega, by omega, by omega, by omega, by rw [swp_size]; exact hd', ?_, (HS.out.drew.swap i j (by omega) (by omega))⟩
        rw [← HE.out]
        conv => rhs; unfold reverseLoop
        rw [if_pos (by omega)]
        congr 1
        omega
      case measure => simp [intOf]; omega
    · have hfin : reverseLoop i j0.toNat d' = d' := by unfold reverseLoop; rw [if_neg (by omega)]
      have HF : Hid (reverseLoop i j0.toNat d' = d') := hfin
      clear hst heq hfin
      go_wp2
      go_end0
      refine ⟨rfl, ?_⟩
      rw [← HE.out, HF.out]
      exact HS.out
end Go.Proofs.Ybulkabsy.So
