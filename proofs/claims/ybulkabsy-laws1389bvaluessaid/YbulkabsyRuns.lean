/-
  The plain mathematics of runCount: the runs of a bitmap, word by word and bit by bit. No Go in sight.
-/
import Derived.Test.YbulkabsyPop
namespace Go.Proofs.Ybulkabsy.Runs
open Go.Proofs.Ybulkabsy.Pop
set_option linter.unusedVariables false
set_option linter.unusedSimpArgs false

/-- Bit v of the bitmap W. -/
def bit (W : Nat → Nat) (v : Nat) : Bool := (W (v / 64)).testBit (v % 64)
/-- Does a run begin at v? -/
def begins (W : Nat → Nat) (v : Nat) : Bool := bit W v && (v == 0 || !bit W (v - 1))
/-- The top bit of the word before. -/
def below (W : Nat → Nat) : Nat → Nat | 0 => 0 | k + 1 => W k / 9223372036854775808
/-- The bits of word k at which a run begins. -/
def heads (W : Nat → Nat) (k : Nat) : Nat := W k &&& (18446744073709551615 - ((W k * 2 % 18446744073709551616) ||| below W k))
/-- The runs that begin in the first n words. -/
def runs (W : Nat → Nat) : Nat → Nat | 0 => 0 | n + 1 => runs W n + pop (heads W n)

theorem below_le (W : Nat → Nat) (hW : ∀ j, W j < 18446744073709551616) (k : Nat) : below W k ≤ 1 := by
  match k with
  | 0 => exact Nat.zero_le _
  | k + 1 => have := hW k; show W k / 9223372036854775808 ≤ 1; omega
theorem below_bit (W : Nat → Nat) (hW : ∀ j, W j < 18446744073709551616) (k : Nat) : (below W (k + 1)).testBit 0 = (W k).testBit 63 := by
  show (W k / 2 ^ 63).testBit 0 = _
  rw [Nat.testBit_div_two_pow]
theorem le_one_bit {b j : Nat} (h : b ≤ 1) (hj : 0 < j) : b.testBit j = false := by
  have : b < 2 ^ j := Nat.lt_of_le_of_lt h (Nat.one_lt_two_pow (by omega))
  exact Nat.testBit_lt_two_pow this

theorem dbl_bit (x j : Nat) (hj : j < 64) : (x * 2 % 18446744073709551616).testBit j = (decide (0 < j) && x.testBit (j - 1)) := by
  rw [show (18446744073709551616 : Nat) = 2 ^ 64 from rfl, Nat.testBit_mod_two_pow, Nat.mul_comm, show 2 * x = 2 ^ 1 * x from rfl, Nat.testBit_two_pow_mul]
  simp only [hj, decide_true, Bool.true_and, Nat.pow_one]
  by_cases h : 0 < j
  · simp [h]; omega
  · simp [h]; omega

theorem heads_bit (W : Nat → Nat) (hW : ∀ j, W j < 18446744073709551616) (k j : Nat) (hj : j < 64) : (heads W k).testBit j = begins W (64 * k + j) := by
  have hb := below_le W hW k
  have hy : (W k * 2 % 18446744073709551616) ||| below W k < 2 ^ 64 := Nat.or_lt_two_pow (Nat.mod_lt _ (by decide)) (by omega)
  unfold heads begins bit
  rw [Nat.testBit_and, show 18446744073709551615 - ((W k * 2 % 18446744073709551616) ||| below W k) = 2 ^ 64 - (((W k * 2 % 18446744073709551616) ||| below W k) + 1) from by omega, Nat.testBit_two_pow_sub_succ hy, Nat.testBit_or, dbl_bit _ _ hj]
  rw [show (64 * k + j) / 64 = k from by omega, show (64 * k + j) % 64 = j from by omega]
  congr 1
  simp only [hj, decide_true, Bool.true_and]
  by_cases h : j = 0
  · subst h
    match k with
    | 0 => simp [below]
    | k + 1 =>
      rw [below_bit W hW k, show (64 * (k + 1) + 0 - 1) / 64 = k from by omega, show (64 * (k + 1) + 0 - 1) % 64 = 63 from by omega]
      simp
  · rw [le_one_bit hb (by omega), show (64 * k + j - 1) / 64 = k from by omega, show (64 * k + j - 1) % 64 = j - 1 from by omega]
    have h1 : decide (0 < j) = true := by simp; omega
    have h2 : (64 * k + j == 0) = false := by simp; omega
    rw [h1, h2]; simp

theorem runs_eq (W : Nat → Nat) (hW : ∀ j, W j < 18446744073709551616) : ∀ n, runs W n = (List.range (64 * n)).countP (begins W)
  | 0 => rfl
  | n + 1 => by
    show runs W n + pop (heads W n) = _
    rw [runs_eq W hW n, show 64 * (n + 1) = 64 * n + 64 from by omega, countP_add]
    congr 1
    unfold pop
    apply countP_congr'
    intro j hj
    exact heads_bit W hW n j hj

theorem runs_le (W : Nat → Nat) : ∀ n, runs W n ≤ 64 * n
  | 0 => Nat.le_refl _
  | n + 1 => by
    show runs W n + pop (heads W n) ≤ _
    have := runs_le W n
    have := pop_le (heads W n)
    omega
end Go.Proofs.Ybulkabsy.Runs
