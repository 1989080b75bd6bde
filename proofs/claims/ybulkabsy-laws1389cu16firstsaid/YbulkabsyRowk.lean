import Derived.Test.YbulkabsySrch
import Derived.OwnWalk
namespace Go.Proofs.Ybulkabsy.Rowk
open Go.RowKit Go.Proofs.Ybulkabsy.Srch
set_option linter.unusedVariables false
set_option linter.unusedSimpArgs false

theorem info3 : (Yba.prog.info? 3).map (fun i => (i.zero, i.size, i.bytes)) = some (some (.int .i64 0), 1, 8) := by kernel_rfl
theorem info23 : (Yba.prog.info? 23).map (fun i => (i.zero, i.size, i.bytes)) = some (some (.int .u16 0), 1, 2) := by kernel_rfl

/-- Numbers of one kind as cells. -/
def nums (k : IntKind) (W : Nat → Int) (m : Nat) : Array Value := ((List.range m).map fun j => Value.int k (W j)).toArray
theorem nums_at (k : IntKind) (W : Nat → Int) (m j : Nat) (h : j < m) : (nums k W m)[j]? = some (.int k (W j)) := by simp [nums, h]
theorem nums_size (k : IntKind) (W : Nat → Int) (m : Nat) : (nums k W m).size = m := by simp [nums]
/-- The first so many are filled. -/
def upto (Z : Nat → Int) (c : Nat) : Nat → Int := fun j => if j < c then Z j else 0
theorem upto_lt (Z : Nat → Int) (c j : Nat) (h : j < c) : upto Z c j = Z j := by simp [upto, h]
theorem nums_set (k : IntKind) (Z : Nat → Int) (m c : Nat) (h : c < m) (v : Int) (hv : v = Z c) : (nums k (upto Z c) m).setIfInBounds c (.int k v) = nums k (upto Z (c + 1)) m := by
  subst hv
  apply Array.ext_getElem?
  intro j
  rw [Array.getElem?_setIfInBounds]
  simp only [nums_size]
  by_cases hjm : j < m
  · rw [nums_at _ _ _ _ hjm, nums_at _ _ _ _ hjm]
    unfold upto
    by_cases h1 : c = j
    · subst h1
      rw [if_pos rfl, if_pos h, if_pos (by omega)]
    · rw [if_neg h1]
      by_cases h2 : j < c
      · rw [if_pos h2, if_pos (by omega)]
      · rw [if_neg h2, if_neg (by omega)]
  · rw [if_neg (by omega), Array.getElem?_eq_none (by rw [nums_size]; omega), Array.getElem?_eq_none (by rw [nums_size]; omega)]

theorem made_nums {w1 : World} {B b n : Nat} {k : IntKind} {T : TypeId} (Z : Nat → Int) (h : w1.ownsRow b T 1 (.slice (some ⟨B, 0, none⟩) n n) n (madeCells (Value.int k 0).cells (n * 1)).toList) :
    w1.heap[B]? = some (.cells (nums k (upto Z 0) n) T (0, 0)) := by
  obtain ⟨_, h2⟩ := h
  rcases h2 with ⟨h, _⟩ | ⟨g, cap, cur, hv, _, hh, _, _, hc, ht⟩
  · cases h
  · simp only [Value.slice.injEq, Option.some.injEq, Addr.mk.injEq, and_true, true_and] at hv
    obtain ⟨rfl, rfl⟩ := hv
    rw [hh]
    congr 2
    rw [List.take_of_length_le (by simp [hc])] at ht
    simp only [Nat.mul_one] at ht
    apply Array.ext_getElem?
    intro j
    rw [← Array.getElem?_toList, ht]
    by_cases hj : j < n
    · rw [nums_at _ _ _ _ hj]
      simp [madeCells, hj, Value.cells, Nat.mod_one, upto]
    · rw [Array.getElem?_eq_none (by rw [nums_size]; omega), List.getElem?_eq_none (by simp [madeCells]; omega)]
/-- A block behind a store into one of its cells. -/
theorem block_set {w : World} {b j : Nat} {cs : Array Value} {T : TypeId} {u : Value} (h : w.heap[b]? = some (.cells cs T (0, 0))) : (w.setCell ⟨b, j, none⟩ u).heap[b]? = some (.cells (cs.setIfInBounds j u) T (0, 0)) := by
  have hlt := lt_of_block h
  have h' : w.heap[b] = .cells cs T (0, 0) := by simpa [Array.getElem?_eq_getElem hlt] using h
  show (w.heap.modify b _)[b]? = _
  rw [Array.getElem?_eq_getElem (by simpa using hlt), Array.getElem_modify_self, h']
  rfl
theorem row_cells {w : World} {B n : Nat} {k : IntKind} {T : TypeId} {Z : Nat → Int} (h : w.heap[B]? = some (.cells (nums k (upto Z n) n) T (0, 0))) : ∀ i, i < n → w.cell? ⟨B, 0 + i, none⟩ = some (.int k (Z i)) := by
  intro i hi
  rw [Nat.zero_add, cell_of_row _ _ _ _ _ _ h, nums_at _ _ _ _ hi, upto_lt _ _ _ hi]
end Go.Proofs.Ybulkabsy.Rowk
