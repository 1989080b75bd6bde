import Derived.Test.YbulkabsyCount
import Derived.Lib.SlicesCompact
namespace Go.Proofs.Ybulkabsy.Val0
open Go.RowKit Go.Proofs.Ybulkabsy.Runs Go.Proofs.Ybulkabsy.Count
set_option linter.unusedVariables false
set_option linter.unusedSimpArgs false

theorem compact_sorted (d : Array Int) (n : Nat) (h : ∀ i j, i < j → j < n → d[i]! ≤ d[j]!) : ∀ m, m ≤ n → (Lib.compactUpTo d m).Pairwise (· < ·) ∧ ∀ x, x ∈ Lib.compactUpTo d m ↔ ∃ j, j < m ∧ d[j]! = x := by
  intro m
  induction m with
  | zero => intro _; simp [Lib.compactUpTo]
  | succ m ih =>
    intro hm
    obtain ⟨h1, h2⟩ := ih (by omega)
    rw [Lib.compactUpTo_succ]
    by_cases hk : m = 0 ∨ d[m]! ≠ d[m - 1]!
    · have hkeep : Lib.keeps d m = true := by simp only [Lib.keeps]; exact decide_eq_true hk
      rw [if_pos hkeep]
      refine ⟨List.pairwise_append.2 ⟨h1, by simp, ?_⟩, fun x => ?_⟩
      · intro x hx y hy
        obtain ⟨j, hj, rfl⟩ := (h2 x).1 hx
        simp at hy
        subst hy
        rcases hk with hk | hk
        · omega
        · have e1 := h (m - 1) m (by omega) (by omega)
          rcases Nat.lt_or_ge j (m - 1) with e2 | e2
          · have e3 := h j (m - 1) e2 (by omega)
            omega
          · obtain rfl : j = m - 1 := by omega
            omega
      · rw [List.mem_append, h2]
        constructor
        · rintro (⟨j, hj, rfl⟩ | hx)
          · exact ⟨j, by omega, rfl⟩
          · simp at hx
            exact ⟨m, by omega, hx.symm⟩
        · rintro ⟨j, hj, rfl⟩
          rcases Nat.lt_or_ge j m with e | e
          · exact .inl ⟨j, e, rfl⟩
          · obtain rfl : j = m := by omega
            exact .inr (by simp)
    · have hkeep : Lib.keeps d m = false := by simp only [Lib.keeps]; exact decide_eq_false hk
      rw [if_neg (by simp [hkeep]), List.append_nil]
      refine ⟨h1, fun x => ?_⟩
      rw [h2]
      have hm0 : ¬ m = 0 := fun e => hk (.inl e)
      have hme : d[m]! = d[m - 1]! := by
        rcases Int.lt_trichotomy d[m]! d[m - 1]! with e | e | e
        · exact absurd (.inr (by omega)) hk
        · exact e
        · exact absurd (.inr (by omega)) hk
      constructor
      · rintro ⟨j, hj, rfl⟩
        exact ⟨j, by omega, rfl⟩
      · rintro ⟨j, hj, rfl⟩
        rcases Nat.lt_or_ge j m with e | e
        · exact ⟨j, e, rfl⟩
        · obtain rfl : j = m := by omega
          exact ⟨j - 1, by omega, hme.symm⟩

theorem cnt_gap (W : Nat → Nat) (p : Nat) : ∀ q, p ≤ q → (∀ v, p ≤ v → v < q → begins W v = false) → cnt W q = cnt W p := by
  intro q
  induction q with
  | zero => intro h _; obtain rfl : p = 0 := by omega
            rfl
  | succ q ih =>
    intro h hb
    rcases Nat.lt_or_ge p (q + 1) with e | e
    · rw [cnt_succ, ih (by omega) (fun v h1 h2 => hb v h1 (by omega)), hb q (by omega) (by omega)]
      simp
    · obtain rfl : p = q + 1 := by omega
      rfl

/-- Past the k-th value. -/
def top (S : Nat → Nat) : Nat → Nat | 0 => 0 | k + 1 => S k + 1

structure Asc (W S : Nat → Nat) (m : Nat) : Prop where
  asc : ∀ i j, i < j → j < m → S i < S j
  mem : ∀ v, bit W v = true ↔ ∃ i, i < m ∧ S i = v

theorem begins_no {W : Nat → Nat} {v : Nat} (h : bit W v = false) : begins W v = false := by simp [begins, h]
theorem cnt_step {W S : Nat → Nat} {m : Nat} (h : Asc W S m) (k : Nat) (hk : k < m) : cnt W (top S (k + 1)) = cnt W (top S k) + if k = 0 ∨ S k ≠ S (k - 1) + 1 then 1 else 0 := by
  show cnt W (S k + 1) = _
  have hle : top S k ≤ S k := by
    cases k with
    | zero => exact Nat.zero_le _
    | succ j => exact h.asc j (j + 1) (by omega) hk
  have hgap : cnt W (S k) = cnt W (top S k) := by
    apply cnt_gap W _ _ hle
    intro v h1 h2
    apply begins_no
    cases hb : bit W v with
    | false => rfl
    | true =>
      obtain ⟨i, hi, rfl⟩ := (h.mem v).1 hb
      exfalso
      rcases Nat.lt_trichotomy i k with e | e | e
      · cases k with
        | zero => omega
        | succ j =>
          have h3 : S j + 1 ≤ S i := h1
          rcases Nat.lt_or_ge i j with e2 | e2
          · have := h.asc i j e2 (by omega)
            omega
          · obtain rfl : i = j := by omega
            omega
      · subst e; omega
      · have := h.asc k i e hi
        omega
  rw [cnt_succ, hgap]
  congr 1
  have hbk : bit W (S k) = true := (h.mem _).2 ⟨k, hk, rfl⟩
  by_cases hc : k = 0 ∨ S k ≠ S (k - 1) + 1
  · rw [if_pos hc]
    have : begins W (S k) = true := by
      unfold begins
      rw [hbk]
      simp only [Bool.true_and, Bool.or_eq_true, beq_iff_eq, Bool.not_eq_true']
      rcases Nat.eq_zero_or_pos (S k) with e | e
      · exact .inl e
      · right
        cases hb : bit W (S k - 1) with
        | false => rfl
        | true =>
          obtain ⟨i, hi, he⟩ := (h.mem _).1 hb
          exfalso
          rcases Nat.lt_trichotomy i k with e1 | e1 | e1
          · rcases hc with hc | hc
            · omega
            · rcases Nat.lt_or_ge i (k - 1) with e2 | e2
              · have := h.asc i (k - 1) e2 (by omega)
                have := h.asc (k - 1) k (by omega) hk
                omega
              · obtain rfl : i = k - 1 := by omega
                omega
          · subst e1; omega
          · have := h.asc k i e1 hi
            omega
    rw [this]
    rfl
  · rw [if_neg hc]
    have : begins W (S k) = false := by
      have hb : bit W (S k - 1) = true := (h.mem _).2 ⟨k - 1, by omega, by omega⟩
      unfold begins
      rw [hbk, hb]
      simp
      omega
    rw [this]
    rfl
theorem cnt_end {W S : Nat → Nat} {m : Nat} (h : Asc W S m) (N : Nat) (hN : ∀ i, i < m → S i < N) : cnt W N = cnt W (top S m) := by
  have hle : top S m ≤ N := by
    cases m with
    | zero => exact Nat.zero_le _
    | succ j => exact hN j (by omega)
  apply cnt_gap W _ _ hle
  intro v h1 h2
  apply begins_no
  cases hb : bit W v with
  | false => rfl
  | true =>
    obtain ⟨i, hi, rfl⟩ := (h.mem v).1 hb
    exfalso
    cases m with
    | zero => omega
    | succ j =>
      have h3 : S j + 1 ≤ S i := h1
      rcases Nat.lt_or_ge i j with e2 | e2
      · have := h.asc i j e2 (by omega)
        omega
      · obtain rfl : i = j := by omega
        omega
end Go.Proofs.Ybulkabsy.Val0
