import Derived.Test.YbulkabsyCount
namespace Go.Proofs.Ybulkabsy.Bset
open Go.RowKit Go.Proofs.Ybulkabsy.Pop Go.Proofs.Ybulkabsy.Runs Go.Proofs.Ybulkabsy.Map
set_option linter.unusedVariables false
set_option linter.unusedSimpArgs false

/-- The bits of W and v. -/
def add (W : Nat → Nat) (v : Nat) : Nat → Nat := put W (v / 64) (W (v / 64) ||| 2 ^ (v % 64))
theorem add_bit (W : Nat → Nat) (v x : Nat) : bit (add W v) x = (bit W x || x == v) := by
  unfold bit add put
  by_cases h : x / 64 = v / 64
  · rw [if_pos h, Nat.testBit_or, Nat.testBit_two_pow, h]
    by_cases h2 : x % 64 = v % 64
    · have : x = v := by omega
      subst this
      simp
    · have : ¬ x = v := fun e => h2 (by rw [e])
      simp [this, Ne.symm h2]
  · rw [if_neg h]
    have : ¬ x = v := fun e => h (by rw [e])
    simp [this]
theorem add_lt (W : Nat → Nat) (hW : ∀ j, W j < 18446744073709551616) (v : Nat) : ∀ j, add W v j < 18446744073709551616 := by
  intro j
  unfold add put
  split
  · have h1 : W (v / 64) < 2 ^ 64 := hW _
    have h2 : 2 ^ (v % 64) < 2 ^ 64 := Nat.pow_lt_pow_right (by decide) (by omega)
    exact Nat.or_lt_two_pow h1 h2
  · exact hW j

theorem pow_lt (v : Nat) : 2 ^ (v % 64) < 18446744073709551616 := Nat.pow_lt_pow_right (n := 64) (by decide) (Nat.mod_lt _ (by decide))
theorem wrap_pow (v : Nat) : IntKind.u64.wrap ((2 : Int) ^ (v % 64)) = ((2 ^ (v % 64) : Nat) : Int) := by
  rw [IntKind.wrap_u64, show ((2 : Int) ^ (v % 64)) = ((2 ^ (v % 64) : Nat) : Int) from by simp]
  have h := pow_lt v
  obtain ⟨m, hm⟩ : ∃ m, m = 2 ^ (v % 64) := ⟨_, rfl⟩
  rw [← hm] at h ⊢
  omega
theorem and_test (a v : Nat) (ha : a < 18446744073709551616) : (bits .and .u64 (a : Int) (IntKind.u64.wrap ((2 : Int) ^ (v % 64))) == 0) = !a.testBit (v % 64) := by
  rw [wrap_pow, u64_and_nat _ _ ha (pow_lt v)]
  have ht : (a &&& 2 ^ (v % 64)).testBit (v % 64) = a.testBit (v % 64) := by
    rw [Nat.testBit_and, Nat.testBit_two_pow]
    simp
  cases h : a.testBit (v % 64)
  · have h0 : a &&& 2 ^ (v % 64) = 0 := by
      apply Nat.eq_of_testBit_eq
      intro j
      rw [Nat.testBit_and, Nat.testBit_two_pow, Nat.zero_testBit]
      by_cases hj : v % 64 = j
      · rw [← hj, h]; rfl
      · simp [hj]
    rw [h0]
    rfl
  · have h0 : ¬ a &&& 2 ^ (v % 64) = 0 := by
      intro e
      rw [e, h, Nat.zero_testBit] at ht
      cases ht
    have h1 : ¬ (((a &&& 2 ^ (v % 64) : Nat) : Int) = 0) := by omega
    simpa using h0
theorem or_word (a v : Nat) (ha : a < 18446744073709551616) : bits .or .u64 (a : Int) (IntKind.u64.wrap ((2 : Int) ^ (v % 64))) = ((a ||| 2 ^ (v % 64) : Nat) : Int) := by
  rw [wrap_pow, u64_or_nat _ _ ha (pow_lt v)]

set_option maxRecDepth 100000 in
set_option maxHeartbeats 1000000 in
theorem set10 (bb : Nat) (W : Nat → Nat) (c : Nat) (v : Nat) (hv : (v : Int) < 65536) (hc : c ≤ 100000) (w : World) (hW : ∀ j, W j < 18446744073709551616) (hb : w.heap[bb]? = some (.cells (bmap W c) 28 (0, 0))) :
    Calls Yba.prog 10 #[.pointer (some ⟨bb, 0, none⟩), .int .u16 v] w fun e w' => e = .returned (.tuple #[]) ∧ w.grownBy w' (some bb) ∧ ∃ (W' : Nat → Nat) (c' : Nat), c' ≤ c + 1 ∧ (∀ j, W' j < 18446744073709551616) ∧ (∀ x, bit W' x = (bit W x || x == v)) ∧ w'.heap[bb]? = some (.cells (bmap W' c') 28 (0, 0)) := by
  have hlt : v / 64 < 1024 := by omega
  have c0 : w.cell? ⟨bb, v / 64, none⟩ = some (.int .u64 (W (v / 64))) := by rw [cell_of_row _ _ _ _ _ _ hb, bmap_at _ _ _ hlt]
  have f0 : w.frozen? ⟨bb, v / 64, none⟩ = false := frozen_of_row _ _ _ _ _ hb
  have c1 : w.cell? ⟨bb, 1024, none⟩ = some (.int .i64 c) := by rw [cell_of_row _ _ _ _ _ _ hb, bmap_card]
  have f1 : w.frozen? ⟨bb, 1024, none⟩ = false := frozen_of_row _ _ _ _ _ hb
  have HB : Hid (w.heap[bb]? = some (.cells (bmap W c) 28 (0, 0))) := hb
  have HW : Hid (∀ j, W j < 18446744073709551616) := hW
  have hl := hW (v / 64)
  have hand := and_test (W (v / 64)) v hl
  have hor := or_word (W (v / 64)) v hl
  clear hb hW
  by_cases ht : (W (v / 64)).testBit (v % 64) = true
  · rw [ht] at hand
    clear hor
    have HT : Hid ((W (v / 64)).testBit (v % 64) = true) := ht
    clear ht
    go_enter Yba.func10, Yba.ntmps10
    go_wp2
    go_end0
    refine ⟨rfl, ⟨rfl, rfl, rfl, Nat.le_refl _, fun _ _ _ => rfl⟩, W, c, by omega, HW.out, fun x => ?_, HB.out⟩
    by_cases hx : x = v
    · subst hx
      have : bit W x = true := HT.out
      simp [this]
    · simp [hx]
  · rw [Bool.not_eq_true] at ht
    rw [ht] at hand
    clear ht
    go_enter Yba.func10, Yba.ntmps10
    go_wp2
    go_end0
    refine ⟨rfl, grown_trans (grown_set _ _ _ _) (grown_set _ _ _ _), add W v, c + 1, Nat.le_refl _, add_lt W HW.out v, add_bit W v, ?_⟩
    have h1 := block_set (j := v / 64) (u := .int .u64 ((W (v / 64) ||| 2 ^ (v % 64) : Nat) : Int)) HB.out
    rw [bmap_set _ _ _ _ hlt] at h1
    have h2 := block_set (j := 1024) (u := .int .i64 ((c : Int) + 1)) h1
    rw [bmap_set_card] at h2
    exact h2
end Go.Proofs.Ybulkabsy.Bset
