/-
  The bits of an entry: its low byte is no mark of a record; its key is not 0.
-/
import Derived.Laws.BitsAllLaws
namespace Go.Proofs.Ybulkabsk.Entry

theorem low_bits (x c : Nat) (hl : 18446744073709551360 &&& c = 0) (l : Nat) : (((x &&& 18446744073709551360) &&& 72057594037927935) ||| l) &&& c = l &&& c := by
  rw [Nat.and_or_distrib_right]
  have : (x &&& 18446744073709551360) &&& 72057594037927935 &&& c = 0 := by
    rw [Nat.and_assoc, Nat.and_comm 72057594037927935 c, ← Nat.and_assoc, Nat.and_assoc x, hl]
    simp
  rw [this]; simp

theorem facts (x : Int) (h0 : 0 ≤ x) (h1 : x < 18446744073709551616) :
    ∃ e k : Nat, bits .or .u64 (bits .and .u64 (bits .andNot .u64 x 255) 72057594037927935) (1 + x % 127) = (e : Int) ∧ e < 18446744073709551616 ∧
      (bits .and .u64 (e : Int) 255 != 128) = true ∧ bits .andNot .u64 (e : Int) 9259542123273814144 = (k : Int) ∧ 1 ≤ k ∧ k < 18446744073709551616 := by
  obtain ⟨n, rfl⟩ := Int.eq_ofNat_of_zero_le h0
  have hn : n < 18446744073709551616 := by omega
  have a1 : bits .andNot .u64 (n : Int) 255 = ((n &&& 18446744073709551360 : Nat) : Int) := u64_andNot_nat n 255 hn (by omega)
  have b1 : n &&& 18446744073709551360 < 18446744073709551616 := Nat.lt_of_le_of_lt Nat.and_le_left hn
  have a2 : bits .and .u64 ((n &&& 18446744073709551360 : Nat) : Int) 72057594037927935 = (((n &&& 18446744073709551360) &&& 72057594037927935 : Nat) : Int) := u64_and_nat _ 72057594037927935 b1 (by omega)
  have b2 : (n &&& 18446744073709551360) &&& 72057594037927935 < 18446744073709551616 := Nat.lt_of_le_of_lt Nat.and_le_left b1
  have hl : 1 + n % 127 < 128 := by omega
  have a3 : bits .or .u64 (((n &&& 18446744073709551360) &&& 72057594037927935 : Nat) : Int) ((1 + n % 127 : Nat) : Int) = ((((n &&& 18446744073709551360) &&& 72057594037927935) ||| (1 + n % 127) : Nat) : Int) := u64_or_nat _ _ b2 (by omega)
  have e1 : (1 : Int) + (n : Int) % 127 = ((1 + n % 127 : Nat) : Int) := by omega
  have be : ((n &&& 18446744073709551360) &&& 72057594037927935) ||| (1 + n % 127) < 18446744073709551616 := Nat.or_lt_two_pow (n := 64) b2 (by omega)
  refine ⟨((n &&& 18446744073709551360) &&& 72057594037927935) ||| (1 + n % 127), (((n &&& 18446744073709551360) &&& 72057594037927935) ||| (1 + n % 127)) &&& 9187201950435737471, ?_, be, ?_, ?_, ?_, ?_⟩
  · rw [a1, a2, e1, a3]
  · have := u64_and_nat _ 255 be (by omega)
    have h2 := low_bits n 255 (by decide) (1 + n % 127)
    rw [show (255 : Int) = ((255 : Nat) : Int) from rfl, this, h2, show (255 : Nat) = 2 ^ 8 - 1 from rfl, Nat.and_two_pow_sub_one_eq_mod]
    rw [bne_iff_ne]
    omega
  · exact u64_andNot_nat _ 9259542123273814144 be (by omega)
  · have h2 := low_bits n 127 (by decide) (1 + n % 127)
    have h3 : ((((n &&& 18446744073709551360) &&& 72057594037927935) ||| (1 + n % 127)) &&& 9187201950435737471) &&& 127 = 1 + n % 127 := by
      rw [Nat.and_assoc, show (9187201950435737471 &&& 127 : Nat) = 127 from by decide, h2, show (127 : Nat) = 2 ^ 7 - 1 from rfl, Nat.and_two_pow_sub_one_eq_mod]
      omega
    rcases Nat.eq_zero_or_pos ((((n &&& 18446744073709551360) &&& 72057594037927935) ||| (1 + n % 127)) &&& 9187201950435737471) with h | h
    · rw [h] at h3
      simp at h3; omega
    · exact h
  · exact Nat.lt_of_le_of_lt Nat.and_le_left be
end Go.Proofs.Ybulkabsk.Entry
