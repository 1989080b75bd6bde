/-
  The plain mathematics of math/bits.OnesCount64: the sums over fields of 2, 4, 8 .. bits count the bits. No Go in sight.
-/
import Derived.RowKit
namespace Go.Proofs.Ybulkabsy.Pop

theorem and_split (a m y M : Nat) (ha : a < 256) (hm : m < 256) : (a + 256 * y) &&& (m + 256 * M) = (a &&& m) + 256 * (y &&& M) := by
  have hx : (a &&& m) < 2 ^ 8 := Nat.and_lt_two_pow a hm
  apply Nat.eq_of_testBit_eq
  intro i
  rw [Nat.testBit_and, show a + 256 * y = 2 ^ 8 * y + a from by omega, show m + 256 * M = 2 ^ 8 * M + m from by omega, show (a &&& m) + 256 * (y &&& M) = 2 ^ 8 * (y &&& M) + (a &&& m) from by omega,
    Nat.testBit_two_pow_mul_add _ ha, Nat.testBit_two_pow_mul_add _ hm, Nat.testBit_two_pow_mul_add _ hx]
  by_cases h : i < 8
  · simp [h]
  · simp [h]

def m1 : Nat → Nat | 0 => 0 | n + 1 => 85 + 256 * m1 n
def m2 : Nat → Nat | 0 => 0 | n + 1 => 51 + 256 * m2 n
def m3 : Nat → Nat | 0 => 0 | n + 1 => 15 + 256 * m3 n
theorem m1_8 : m1 8 = 6148914691236517205 := by decide
theorem m2_8 : m2 8 = 3689348814741910323 := by decide
theorem m3_8 : m3 8 = 1085102592571150095 := by decide

def g1 (a : Nat) : Nat := ((a / 2) &&& 85) + (a &&& 85)
def g2 (a : Nat) : Nat := ((a / 4) &&& 51) + (a &&& 51)
def R1 (n x : Nat) : Nat := ((x / 2) &&& m1 n) + (x &&& m1 n)
def R2 (n x : Nat) : Nat := ((x / 4) &&& m2 n) + (x &&& m2 n)
def R3 (n x : Nat) : Nat := (x / 16 + x) &&& m3 n

theorem low1 : ∀ a : Fin 256, ∀ e : Fin 2, (a.val / 2 + 128 * e.val) &&& 85 = (a.val / 2) &&& 85 := by decide +kernel
theorem low2 : ∀ a : Fin 256, ∀ e : Fin 4, (a.val / 4 + 64 * e.val) &&& 51 = (a.val / 4) &&& 51 := by decide +kernel
theorem R1_succ (n a y : Nat) (ha : a < 256) : R1 (n + 1) (a + 256 * y) = g1 a + 256 * R1 n y := by
  unfold R1 g1
  show (((a + 256 * y) / 2) &&& (85 + 256 * m1 n)) + ((a + 256 * y) &&& (85 + 256 * m1 n)) = _
  rw [show (a + 256 * y) / 2 = (a / 2 + 128 * (y % 2)) + 256 * (y / 2) from by omega, and_split _ _ _ _ (by omega) (by omega), and_split _ _ _ _ ha (by omega), low1 ⟨a, ha⟩ ⟨y % 2, by omega⟩]
  show ((a / 2) &&& 85) + 256 * _ + _ = _
  omega
theorem R2_succ (n a y : Nat) (ha : a < 256) : R2 (n + 1) (a + 256 * y) = g2 a + 256 * R2 n y := by
  unfold R2 g2
  show (((a + 256 * y) / 4) &&& (51 + 256 * m2 n)) + ((a + 256 * y) &&& (51 + 256 * m2 n)) = _
  rw [show (a + 256 * y) / 4 = (a / 4 + 64 * (y % 4)) + 256 * (y / 4) from by omega, and_split _ _ _ _ (by omega) (by omega), and_split _ _ _ _ ha (by omega), low2 ⟨a, ha⟩ ⟨y % 4, by omega⟩]
  show ((a / 4) &&& 51) + 256 * _ + _ = _
  omega
theorem R3_succ (n a y : Nat) (h : a / 16 + 16 * (y % 16) + a < 256) : R3 (n + 1) (a + 256 * y) = ((a / 16 + 16 * (y % 16) + a) &&& 15) + 256 * R3 n y := by
  unfold R3
  show ((a + 256 * y) / 16 + (a + 256 * y)) &&& (15 + 256 * m3 n) = _
  rw [show (a + 256 * y) / 16 + (a + 256 * y) = (a / 16 + 16 * (y % 16) + a) + 256 * (y / 16 + y) from by omega, and_split _ _ _ _ h (by omega)]

/-- The bits of a byte. -/
def pc8 (b : Nat) : Nat := (List.range 8).countP fun j => b.testBit j
/-- What the three steps make of one byte; the digits stay small. -/
theorem g1_lt : ∀ a : Fin 256, g1 a.val < 256 := by decide +kernel
theorem g2_small : ∀ a : Fin 256, g2 (g1 a.val) % 16 ≤ 4 ∧ g2 (g1 a.val) / 16 ≤ 4 ∧ g2 (g1 a.val) < 256 := by decide +kernel
theorem g3_pc : ∀ a : Fin 256, (g2 (g1 a.val) / 16 + g2 (g1 a.val)) % 16 = pc8 a.val := by decide +kernel
theorem pc8_le : ∀ a : Fin 256, pc8 a.val ≤ 8 := by decide +kernel

/-- The bytes' counts, a byte each. -/
def C : Nat → Nat → Nat | 0, _ => 0 | n + 1, x => pc8 (x % 256) + 256 * C n (x / 256)
theorem split256 (x : Nat) : x % 256 + 256 * (x / 256) = x := by omega
theorem R0 (x : Nat) : R1 0 x = 0 ∧ R2 0 x = 0 ∧ R3 0 x = 0 := by simp [R1, R2, R3, m1, m2, m3]

theorem low_y (n x : Nat) : R2 n (R1 n x) % 16 ≤ 4 := by
  match n with
  | 0 => rw [(R0 _).2.1]; omega
  | n + 1 =>
    have h := g2_small ⟨x % 256, by omega⟩
    have h1 := g1_lt ⟨x % 256, by omega⟩
    rw [← split256 x, R1_succ _ _ _ (by omega), R2_succ _ _ _ (by simpa using h1)]
    have := h.1
    simp only at this
    omega

theorem R_eq : ∀ (n x : Nat), R3 n (R2 n (R1 n x)) = C n x
  | 0, x => (R0 _).2.2
  | n + 1, x => by
    have h := g2_small ⟨x % 256, by omega⟩
    have h1 := g1_lt ⟨x % 256, by omega⟩
    have h3 := g3_pc ⟨x % 256, by omega⟩
    have hy := low_y n (x / 256)
    simp only at h h1 h3
    have e : R1 (n + 1) x = g1 (x % 256) + 256 * R1 n (x / 256) := by
      conv => lhs; rw [← split256 x]
      exact R1_succ _ _ _ (by omega)
    rw [e, R2_succ _ _ _ h1, R3_succ _ _ _ (by omega), R_eq n (x / 256)]
    show _ = pc8 (x % 256) + 256 * C n (x / 256)
    rw [← h3]
    congr 1
    rw [show (15 : Nat) = 2 ^ 4 - 1 from rfl, Nat.and_two_pow_sub_one_eq_mod]
    omega

/-- The number of bits of x among the lowest 8 n. -/
def P : Nat → Nat → Nat | 0, _ => 0 | n + 1, x => pc8 (x % 256) + P n (x / 256)

theorem countP_add (p : Nat → Bool) (a : Nat) : ∀ b, (List.range (a + b)).countP p = (List.range a).countP p + (List.range b).countP fun j => p (a + j)
  | 0 => by simp
  | b + 1 => by
    rw [← Nat.add_assoc, List.range_succ, List.countP_append, countP_add p a b, List.range_succ, List.countP_append]
    simp only [List.countP_singleton]
    omega
theorem countP_congr' {p q : Nat → Bool} {n : Nat} (h : ∀ j, j < n → p j = q j) : (List.range n).countP p = (List.range n).countP q := by
  apply List.countP_congr
  intro x hx
  rw [h x (by simpa using hx)]
theorem P_eq : ∀ (n x : Nat), P n x = (List.range (8 * n)).countP fun j => x.testBit j
  | 0, x => rfl
  | n + 1, x => by
    show pc8 (x % 256) + P n (x / 256) = _
    rw [P_eq n (x / 256), show 8 * (n + 1) = 8 + 8 * n from by omega, countP_add]
    congr 1
    · unfold pc8
      apply countP_congr'
      intro j hj
      rw [show (256 : Nat) = 2 ^ 8 from rfl, Nat.testBit_mod_two_pow]
      simp [hj]
    · apply countP_congr'
      intro j hj
      rw [show (256 : Nat) = 2 ^ 8 from rfl, Nat.testBit_div_two_pow, Nat.add_comm]

/-- The bits of a word. -/
def pop (x : Nat) : Nat := (List.range 64).countP fun j => x.testBit j
theorem pop_le (x : Nat) : pop x ≤ 64 := by
  unfold pop
  have := List.countP_le_length (p := fun j => x.testBit j) (l := List.range 64)
  simpa using this

theorem add_step {C C' C'' a b : Nat} (h : C = a + 256 * C') (h' : C' = b + 256 * C'') : C + C' = (a + b) + 256 * (C' + C'') := by omega
theorem div_1 {c a C : Nat} (h : c = a + 256 * C) (ha : a < 256) : c / 256 = C := by omega
theorem div_2 {c a b C D : Nat} (h : c = a + 256 * C) (h' : C = b + 256 * D) (ha : a < 256) (hb : b < 256) : c / 65536 = D := by omega
theorem bnd {C a C' n : Nat} (h : C = a + 256 * C') (ha : a ≤ 8) (hn : C' ≤ n) : C ≤ 8 + 256 * n := by omega
theorem add2 {A B a b A' B' : Nat} (h : A = a + 256 * A') (h' : B = b + 256 * B') : A + B = (a + b) + 256 * (A' + B') := by omega
theorem sm2 {a b : Nat} (h : a ≤ 8) (h' : b ≤ 8) : a + b < 256 := by omega
theorem sm4 {a b c d : Nat} (h : a ≤ 8) (h' : b ≤ 8) (h2 : c ≤ 8) (h3 : d ≤ 8) : a + b + (c + d) < 256 := by omega
theorem fin8 (c0 c1 c2 c3 c4 c5 c6 c7 : Nat) (h0 : c0 ≤ 8) (h1 : c1 ≤ 8) (h2 : c2 ≤ 8) (h3 : c3 ≤ 8) (h4 : c4 ≤ 8) (h5 : c5 ≤ 8) (h6 : c6 ≤ 8) (h7 : c7 ≤ 8) (G H : Nat) :
    (c0 + c1 + (c2 + c3) + 256 * G + (c4 + c5 + (c6 + c7) + 256 * H)) % 128 = c0 + c1 + c2 + c3 + c4 + c5 + c6 + c7 := by omega
theorem div_4 {c C D : Nat} (h : c / 65536 = C) (h' : C / 65536 = D) : c / 4294967296 = D := by omega

theorem sums (c0 c1 c2 c3 c4 c5 c6 c7 : Nat) (h0 : c0 ≤ 8) (h1 : c1 ≤ 8) (h2 : c2 ≤ 8) (h3 : c3 ≤ 8) (h4 : c4 ≤ 8) (h5 : c5 ≤ 8) (h6 : c6 ≤ 8) (h7 : c7 ≤ 8) (c C1 C2 C3 C4 C5 C6 C7 : Nat)
    (hc : c = c0 + 256 * C1) (k1 : C1 = c1 + 256 * C2) (k2 : C2 = c2 + 256 * C3) (k3 : C3 = c3 + 256 * C4) (k4 : C4 = c4 + 256 * C5) (k5 : C5 = c5 + 256 * C6) (k6 : C6 = c6 + 256 * C7) (k7 : C7 = c7 + 256 * 0) :
    c < 18446744073709551616 / 16 ∧ c + c / 256 < 18446744073709551616 / 8 ∧ (c + c / 256) + (c + c / 256) / 65536 < 18446744073709551616 / 4 ∧
      ((c + c / 256) + (c + c / 256) / 65536 + ((c + c / 256) + (c + c / 256) / 65536) / 4294967296) < 18446744073709551616 / 2 ∧
      ((c + c / 256) + (c + c / 256) / 65536 + ((c + c / 256) + (c + c / 256) / 65536) / 4294967296) % 128 = c0 + c1 + c2 + c3 + c4 + c5 + c6 + c7 := by
  have b7 : C7 ≤ 8 := bnd k7 h7 (Nat.le_refl 0)
  have b6 : C6 ≤ 2056 := bnd k6 h6 b7
  have b5 : C5 ≤ 526344 := bnd k5 h5 b6
  have b4 : C4 ≤ 134744072 := bnd k4 h4 b5
  have b3 : C3 ≤ 34494482440 := bnd k3 h3 b4
  have b2 : C2 ≤ 8830587504648 := bnd k2 h2 b3
  have b1 : C1 ≤ 2260630401189896 := bnd k1 h1 b2
  have b0 : c ≤ 578721382704613384 := bnd hc h0 b1
  have f0 := add_step hc k1
  have f1 := add_step k1 k2
  have f2 := add_step k2 k3
  have f3 := add_step k3 k4
  have f4 := add_step k4 k5
  have f5 := add_step k5 k6
  have f6 := add_step k6 k7
  have d1 : c / 256 = C1 := div_1 hc (Nat.lt_of_le_of_lt h0 (by decide))
  rw [d1]
  have d2 : (c + C1) / 65536 = C2 + C3 := div_2 f0 f1 (sm2 h0 h1) (sm2 h1 h2)
  rw [d2]
  have B0 : c + C1 ≤ 580982013105803280 := Nat.add_le_add b0 b1
  have B2 : C2 + C3 ≤ 8865081987088 := Nat.add_le_add b2 b3
  have B4 : C4 + C5 ≤ 135270416 := Nat.add_le_add b4 b5
  have B6 : C6 + C7 ≤ 2064 := Nat.add_le_add b6 b7
  generalize c + C1 = F0 at *
  generalize C1 + C2 = F1 at *
  generalize C2 + C3 = F2 at *
  generalize C3 + C4 = F3 at *
  generalize C4 + C5 = F4 at *
  generalize C5 + C6 = F5 at *
  generalize C6 + C7 = F6 at *
  have g0 := add2 f0 f2
  have g1 := add2 f1 f3
  have g2 := add2 f2 f4
  have g3 := add2 f3 f5
  have g4 := add2 f4 f6
  have d3 : (F0 + F2) / 65536 = F2 + F4 := div_2 g0 g1 (sm4 h0 h1 h2 h3) (sm4 h1 h2 h3 h4)
  have d4 : (F2 + F4) / 65536 = F4 + F6 := div_2 g2 g3 (sm4 h2 h3 h4 h5) (sm4 h3 h4 h5 h6)
  rw [div_4 d3 d4]
  refine ⟨Nat.lt_of_le_of_lt b0 (by decide), Nat.lt_of_le_of_lt B0 (by decide), Nat.lt_of_le_of_lt (Nat.add_le_add B0 B2) (by decide), Nat.lt_of_le_of_lt (Nat.add_le_add (Nat.add_le_add B0 B2) (Nat.add_le_add B4 B6)) (by decide), ?_⟩
  rw [g0, g4]
  exact fin8 c0 c1 c2 c3 c4 c5 c6 c7 h0 h1 h2 h3 h4 h5 h6 h7 _ _
end Go.Proofs.Ybulkabsy.Pop
