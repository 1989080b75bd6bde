import Derived.Test.YbulkabpeElem
import Derived.Laws.CopyOwn
namespace Go.Proofs.Ybulkabpe.Raw
open Go.RowKit Go.Proofs.Ybulkabpe.Mem
set_option linter.unusedVariables false
set_option linter.unusedSimpArgs false

theorem info5 : (Yba.prog.info? 5).map (fun i => (i.zero, i.size, i.bytes)) = some (some (.int .u8 0), 1, 1) := by kernel_rfl
theorem size5 : (Yba.prog.info? 5).map (·.size) = some 1 := by kernel_rfl

theorem eql_nil (w : World) : (binOp .eql 23 (.slice none 0 0) (.slice none 0 0)).run Yba.prog w = .ok (.bool true) w := by kernel_rfl

/-- Octets as cells. -/
def octs (z : Nat → Int) (n : Nat) : List Value := (List.range n).map fun j => .int .u8 (z j)
theorem octs_length (z : Nat → Int) (n : Nat) : (octs z n).length = n := by simp [octs]
theorem octs_at (z : Nat → Int) (n j : Nat) (v : Value) (h : (octs z n)[j]? = some v) : j < n ∧ v = .int .u8 (z j) := by
  unfold octs at h
  rw [List.getElem?_map] at h
  by_cases hj : j < n
  · rw [List.getElem?_range hj] at h
    simp at h
    exact ⟨hj, h.symm⟩
  · rw [List.getElem?_eq_none (by simpa using hj)] at h
    simp at h

theorem octs_one (z : Nat → Int) (n : Nat) : ∀ v ∈ octs z n, v.oneCell' = true := by
  intro v hv
  unfold octs at hv
  rw [List.mem_map] at hv
  obtain ⟨j, _, rfl⟩ := hv
  rfl
/-- The block that 'make' has laid. -/
theorem made_block {w1 : World} {B n : Nat} (h : w1.ownsRow B 5 1 (.slice (some ⟨B, 0, none⟩) n n) n (madeCells (Value.int .u8 0).cells (n * 1)).toList) :
    w1.heap[B]? = some (.cells ((madeCells #[.int .u8 0] n).toList).toArray 5 (0, 0)) := by
  obtain ⟨_, h2⟩ := h
  rcases h2 with ⟨h, _⟩ | ⟨g, cap, cur, hv, _, hh, _, _, hc, ht⟩
  · cases h
  · simp only [Value.slice.injEq, Option.some.injEq, Addr.mk.injEq, and_true, true_and] at hv
    obtain ⟨rfl, rfl⟩ := hv
    rw [hh]
    congr 2
    rw [List.take_of_length_le (by simp [hc])] at ht
    simp only [Nat.mul_one] at ht
    rw [← Array.toArray_toList (xs := cur), ht]
    rfl

/-- The head of the law's loop. -/
def Head (w : World) (z : Nat → Int) (sb n : Nat) (k : Nat) (wr : World) : Prop :=
  ∃ (m : Nat) (ra : Addr), Below w.heap.size w wr ∧ wr.heap[w.heap.size]? = some (.cells (octs z n).toArray 5 (0, 0)) ∧ wr.heap[sb]? = some (.cells #[.slice (some ra) m m, .nilIface] 31 (0, 0)) ∧ 2 * k + m ≤ n ∧ (0 < m → ra = ⟨w.heap.size, n - m, none⟩)

theorem octs_cell {wr : World} {B n : Nat} {z : Nat → Int} (h : wr.heap[B]? = some (.cells (octs z n).toArray 5 (0, 0))) (j : Nat) (hj : j < n) : wr.cell? ⟨B, j, none⟩ = some (.int .u8 (z j)) := by
  rw [cell_of_row _ _ _ _ _ _ h]
  simp [octs, hj]
theorem splice_all (L cs : List Value) (h : L.length = cs.length) : splice L 0 cs = cs := by
  simp [splice, ← h]

set_option maxRecDepth 100000 in
set_option maxHeartbeats 1000000 in
theorem walk (a0 : Option Addr) (n cap : Nat) (z : Nat → Int) (w : World) (hz : ∀ j, 0 ≤ z j ∧ z j < 256)
    (hsrc : 0 < n → ∃ ad, a0 = some ad ∧ ∀ j, j < n → w.cell? (ad.add j) = some (.int .u8 (z j))) :
    Calls Yba.prog 4 #[.slice a0 n cap] w fun e w' => e = .returned (.bool true) ∧ Below w.heap.size w w' := by
  by_cases hbig : (1024 : Int) < n
  · go_enter Yba.func4, Yba.ntmps4
    go_wp2
    go_ret
    exact ⟨rfl, Below.refl _ _⟩
  obtain ⟨i0, hi, hz0, hz1, hz2⟩ := info_parts info5
  go_enter Yba.func4, Yba.ntmps4
  go_upto_region 4 with (at_make; refine wpList_make_full _ rfl (.tmp 13) (.tmp 13) 23 rfl w.heap.size 5 i0 (.int .u8 0) 1 Yba.underlying23 hi hz0 hz1 .i64 .i64 n n n rfl rfl rfl rfl (by rw [hz2]; omega) (by unfold maxLen; omega) (Nat.le_refl _) ?_; intro w1 hown1 hgrow1)
  have hmade : w1.heap[w.heap.size]? = some (.cells ((madeCells #[.int .u8 0] n).toList).toArray 5 (0, 0)) := made_block hown1
  have hbel1 : Below w.heap.size w w1 := (Below.refl _ _).grown hgrow1 (Nat.le_refl _) (fun k hk => by cases hk)
  have hsrc1 : 0 < (octs z n).length → (some (⟨w.heap.size, 0, none⟩ : Addr)) = some ⟨w.heap.size, 0, none⟩ ∧ ∃ ad, a0 = some ad ∧ ∀ j v, (octs z n)[j]? = some v → w1.cell? (ad.add j) = some v := by
    intro h
    rw [octs_length] at h
    obtain ⟨ad, rfl, hcs⟩ := hsrc h
    refine ⟨rfl, ad, rfl, fun j v hv => ?_⟩
    obtain ⟨hj, rfl⟩ := octs_at z n j v hv
    have hcj := hcs j hj
    have hlt := World.block_lt_of_cell? w _ hcj
    exact (hbel1.cell hlt).trans hcj
  have Hm : Hid (w1.heap[w.heap.size]? = some (.cells ((madeCells #[.int .u8 0] n).toList).toArray 5 (0, 0))) := hmade
  have Hs : Hid (0 < (octs z n).length → (some (⟨w.heap.size, 0, none⟩ : Addr)) = some ⟨w.heap.size, 0, none⟩ ∧ ∃ ad, a0 = some ad ∧ ∀ j v, (octs z n)[j]? = some v → w1.cell? (ad.add j) = some v) := hsrc1
  have hml : 0 + (octs z n).length ≤ ((madeCells (#[.int .u8 0] : Array Value) n).toList).length := by rw [octs_length]; simp [madeCells]
  have Hml : Hid (0 + (octs z n).length ≤ ((madeCells (#[.int .u8 0] : Array Value) n).toList).length) := hml
  clear hsrc hmade hsrc1 hown1 hgrow1 hml
  go_upto_region 5 with (refine wpList_copy_splice rfl (.tmp 15) (.tmp 16) 23 23 rfl 5 Yba.underlying23 size5 _ _ _ _ _ _ rfl rfl w.heap.size 0 ((madeCells #[.int .u8 0] n).toList) 5 Hm.out (octs z n) ((octs_length z n).trans (Nat.min_self n).symm) Hs.out Hml.out (octs_one z n) w.heap.size w hbel1 (Nat.le_refl _) ?_; intro w2 Hcp hbel2)
  have hcp : w2.heap[w.heap.size]? = some (.cells (octs z n).toArray 5 (0, 0)) := by
    have := Hcp.out
    rwa [splice_all _ _ (by rw [octs_length]; simp [madeCells])] at this
  have hsb := lt_of_block hcp
  have Hst : Hid (Head w z w2.heap.size n 0 (w2.alloc (.cells #[.slice (some ⟨w.heap.size, 0, none⟩) n n, .nilIface] 31))) :=
    ⟨n, ⟨w.heap.size, 0, none⟩, hbel2.alloc (by omega) _, (Below.heap_alloc _ _ _ hsb).trans hcp, Go.heap_alloc_new _ _, by omega, fun _ => by simp⟩
  clear hcp Hcp Hm Hs Hml hbel2 hbel1
  go_wp2
  go_loopw [5] (fun i wr => ∃ k : Nat, i = .int .i64 k ∧ Head w z w2.heap.size n k wr) (fun i _ => n + 2 - (intOf i).toNat)
  case atStart => exact ⟨0, rfl, Hst.out⟩
  case round =>
    clear Hst
    obtain ⟨k, rfl, m, ra, hbel, hcp, hs, hkm, hra⟩ := hrel
    generalize w2.heap.size = sb at *
    have s0 : wr.cell? ⟨sb, 0, none⟩ = some (.slice (some ra) m m) := by rw [cell_of_row _ _ _ _ _ _ hs]; rfl
    have s1 : wr.cell? ⟨sb, 1, none⟩ = some .nilIface := by rw [cell_of_row _ _ _ _ _ _ hs]; rfl
    by_cases hm0 : m = 0
    · subst hm0
      go_wp2_with fail
      refine (Elem.done sb (some ra) 0 .nilIface _ hs).mono ?_
      rintro e w3 ⟨rfl, hb3⟩
      have hs3 : w3.heap[sb]? = some (.cells #[.slice (some ra) 0 0, .nilIface] 31 (0, 0)) := (hb3.block _ (lt_of_block hs)).trans hs
      clear s0 s1
      have s0 : w3.cell? ⟨sb, 0, none⟩ = some (.slice (some ra) 0 0) := by rw [cell_of_row _ _ _ _ _ _ hs3]; rfl
      have s1 : w3.cell? ⟨sb, 1, none⟩ = some .nilIface := by rw [cell_of_row _ _ _ _ _ _ hs3]; rfl
      have hsz := lt_of_block hs3
      have hsz' := hbel.size
      clear hs hs3 hcp
      go_wp2
      go_ret
      exact ⟨rfl, (hbel.trans (hb3.mono hsz')).alloc (by omega) _⟩
    · obtain rfl := hra (by omega)
      clear hra
      go_wp2_with fail
      refine (Elem.any sb w.heap.size (n - m) m m (fun j => z (n - m + j)) _ hs (by omega) (by omega) (by omega) (Nat.le_refl _) hsb (fun j hj => octs_cell hcp _ (by omega)) (fun j => hz _)).mono ?_
      rintro e w3 ⟨hb3, hP⟩
      have hcp3 : w3.heap[w.heap.size]? = some (.cells (octs z n).toArray 5 (0, 0)) := (hb3.block _ hsb).trans hcp
      rcases hP with ⟨-, kk, rfl, hs3⟩ | ⟨t, s, n', x, ca, ra, rfl, hs3, ht1, ht2, hs1, hs2, hs4, hs5, -, hca, hra⟩
      · clear s0 s1
        have s0 : w3.cell? ⟨sb, 0, none⟩ = some (.slice none 0 0) := by rw [cell_of_row _ _ _ _ _ _ hs3]; rfl
        have s1 : w3.cell? ⟨sb, 1, none⟩ = some (.iface 51 (.int .u8 kk)) := by rw [cell_of_row _ _ _ _ _ _ hs3]; rfl
        have hsz := lt_of_block hs3
        have em : ((m : Int) == 0) = false := beq_eq_false_iff_ne.2 (by omega)
        have heq := eql_nil
        clear hs hs3 hcp hcp3
        go_wp2
        go_ret
        exact ⟨rfl, (hbel.trans (hb3.mono (by omega))).alloc (by omega) _⟩
      · clear s0 s1
        have s0 : w3.cell? ⟨sb, 0, none⟩ = some (.slice (some ra) (m - x) (m - x)) := by rw [cell_of_row _ _ _ _ _ _ hs3]; rfl
        have s1 : w3.cell? ⟨sb, 1, none⟩ = some .nilIface := by rw [cell_of_row _ _ _ _ _ _ hs3]; rfl
        have hsz := lt_of_block hs3
        have et : (t == 0) = false := beq_eq_false_iff_ne.2 (by omega)
        have HH : Hid (w3.heap[sb]? = some (.cells #[.slice (some ra) (m - x) (m - x), .nilIface] 31 (0, 0)) ∧ w3.heap[w.heap.size]? = some (.cells (octs z n).toArray 5 (0, 0))) := ⟨hs3, hcp3⟩
        clear hs hs3 hcp hcp3
        go_wp2
        go_roundw
        case rel =>
          refine ⟨k + 1, by go_num, m - x, ra, (hbel.trans (hb3.mono (by omega))).alloc (by omega) _, (Below.heap_alloc _ _ _ (by omega)).trans HH.out.2, (Below.heap_alloc _ _ _ hsz).trans HH.out.1, by omega, fun h => ?_⟩
          rw [hra (by omega)]
          congr 1; omega
        case measure => simp [intOf]; omega
end Go.Proofs.Ybulkabpe.Raw
