/-
  The plain mathematics of LawS1382BWellFormed: the octets of a sequence of elements. No Go in sight.
-/
import Derived.RowKit
namespace Go.Proofs.Ybulkabpe.Enc

/-- The octets of an element: its tag, the length of its contents, the contents. -/
def el (T : Nat → Int) (L : Nat → Nat) (Z : Nat → Nat → Int) (i : Nat) : List Int :=
  (1 + T i % 30) :: ((min (L i) 127 : Nat) : Int) :: (List.range (min (L i) 127)).map (Z i)
/-- The octets of the first k. -/
def enc (T : Nat → Int) (L : Nat → Nat) (Z : Nat → Nat → Int) (k : Nat) : List Int := (List.range k).flatMap (el T L Z)

variable {T : Nat → Int} {L : Nat → Nat} {Z : Nat → Nat → Int}

theorem el_length (i : Nat) : (el T L Z i).length = 2 + min (L i) 127 := by simp [el]; omega
theorem enc_succ (k : Nat) : enc T L Z (k + 1) = enc T L Z k ++ el T L Z k := by simp [enc, List.range_succ]
theorem enc_length_succ (k : Nat) : (enc T L Z (k + 1)).length = (enc T L Z k).length + (2 + min (L k) 127) := by rw [enc_succ, List.length_append, el_length]
theorem enc_le (k : Nat) : (enc T L Z k).length ≤ 129 * k := by
  induction k with
  | zero => simp [enc]
  | succ k ih => rw [enc_length_succ]; omega
theorem enc_more (k d : Nat) : ∃ X, enc T L Z (k + d) = enc T L Z k ++ X := by
  induction d with
  | zero => exact ⟨[], by simp⟩
  | succ d ih =>
    obtain ⟨X, hX⟩ := ih
    exact ⟨X ++ el T L Z (k + d), by rw [← Nat.add_assoc, enc_succ, hX, List.append_assoc]⟩
theorem enc_mono {k n : Nat} (h : k ≤ n) : (enc T L Z k).length ≤ (enc T L Z n).length := by
  obtain ⟨X, hX⟩ := enc_more (T := T) (L := L) (Z := Z) k (n - k)
  rw [show k + (n - k) = n from by omega] at hX
  rw [hX]; simp
theorem enc_at {k n j : Nat} (h : k < n) (hj : j < 2 + min (L k) 127) : (enc T L Z n)[(enc T L Z k).length + j]? = (el T L Z k)[j]? := by
  obtain ⟨X, hX⟩ := enc_more (T := T) (L := L) (Z := Z) (k + 1) (n - (k + 1))
  rw [show k + 1 + (n - (k + 1)) = n from by omega] at hX
  rw [hX, enc_succ, List.append_assoc, List.getElem?_append_right (by omega), Nat.add_sub_cancel_left, List.getElem?_append_left (by rw [el_length]; exact hj)]
/-- The octet at a place, as a function. -/
def oct (T : Nat → Int) (L : Nat → Nat) (Z : Nat → Nat → Int) (n : Nat) (j : Nat) : Int := (enc T L Z n)[j]?.getD 0
theorem oct_0 {k n : Nat} (h : k < n) : oct T L Z n ((enc T L Z k).length) = 1 + T k % 30 := by
  have := enc_at (T := T) (L := L) (Z := Z) (j := 0) h (by omega)
  unfold oct
  rw [Nat.add_zero] at this
  rw [this]; rfl
theorem oct_1 {k n : Nat} (h : k < n) : oct T L Z n ((enc T L Z k).length + 1) = ((min (L k) 127 : Nat) : Int) := by
  have := enc_at (T := T) (L := L) (Z := Z) (j := 1) h (by omega)
  unfold oct
  rw [this]; rfl
theorem oct_body {k n j : Nat} (h : k < n) (hj : j < min (L k) 127) : oct T L Z n ((enc T L Z k).length + (2 + j)) = Z k j := by
  have := enc_at (T := T) (L := L) (Z := Z) (j := 2 + j) h (by omega)
  unfold oct
  rw [this, show 2 + j = j + 2 from by omega]
  simp [el, hj]
end Go.Proofs.Ybulkabpe.Enc
