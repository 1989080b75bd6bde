import Derived.Test.YbulkabskSlot
namespace Go.Proofs.Ybulkabsk.Tab
open Go.RowKit Go.Proofs.Ybulkabsk.Slot
set_option linter.unusedVariables false
set_option linter.unusedSimpArgs false

theorem info24 : (Yba.prog.info? 24).map (fun i => (i.zero, i.size, i.bytes)) = some (some (.int .u64 0), 1, 8) := by kernel_rfl
theorem info3 : (Yba.prog.info? 3).map (fun i => (i.zero, i.size, i.bytes)) = some (some (.int .i64 0), 1, 8) := by kernel_rfl

/-- What zzs1388ctable leaves: a table of S = 2^lg empty slots, at least twice n. -/
def Made (w : World) (n : Nat) (e : Ending) (w' : World) : Prop :=
  ∃ (lg S g ns : Nat), S = 2 ^ lg ∧ 2 ≤ lg ∧ lg ≤ 10 ∧ 4 ≤ S ∧ S ≤ 1024 ∧ 2 * n ≤ S ∧ e = .returned (.tuple #[.agg #[.pointer (some ⟨ns, 0, none⟩), .int .u64 (64 - lg), .int .u64 0], .int .i64 S]) ∧
    w'.cell? ⟨ns, 6, none⟩ = some (.slice (some ⟨g, 0, none⟩) (2 * S) (2 * S)) ∧ w'.heap[g]? = some (.cells (words (fun _ => 0) (2 * S)) 24 (0, 0)) ∧ w.heap.size ≤ g ∧ w.heap.size ≤ ns ∧ g ≠ ns ∧ ns < w'.heap.size ∧ Below w.heap.size w w'

theorem made_words {w1 : World} {B b n : Nat} (h : w1.ownsRow b 24 1 (.slice (some ⟨B, 0, none⟩) n n) n (madeCells (Value.int .u64 0).cells (n * 1)).toList) :
    w1.heap[B]? = some (.cells (words (fun _ => 0) n) 24 (0, 0)) := by
  obtain ⟨_, h2⟩ := h
  rcases h2 with ⟨h, _⟩ | ⟨g, cap, cur, hv, _, hh, _, _, hc, ht⟩
  · cases h
  · simp only [Value.slice.injEq, Option.some.injEq, Addr.mk.injEq, and_true, true_and] at hv
    obtain ⟨rfl, rfl⟩ := hv
    rw [hh]
    congr 2
    rw [List.take_of_length_le (by simp [hc])] at ht
    simp only [Nat.mul_one] at ht
    apply Array.ext_getElem?
    intro j
    rw [← Array.getElem?_toList, ht]
    by_cases hj : j < n
    · rw [words_at _ _ _ hj]
      simp [madeCells, hj, Value.cells, Nat.mod_one]
    · rw [Array.getElem?_eq_none (by rw [words_size]; omega), List.getElem?_eq_none (by simp [madeCells]; omega)]

theorem pow_le10 (k : Nat) (h : 2 ^ k < 1024) : k ≤ 9 := by
  rcases Nat.lt_or_ge k 10 with h1 | h1
  · omega
  · have : 2 ^ 10 ≤ 2 ^ k := Nat.pow_le_pow_right (by decide) h1
    omega

set_option maxRecDepth 100000 in
set_option maxHeartbeats 1000000 in
theorem table_any (n : Nat) (hn : n ≤ 512) (w : World) : Calls Yba.prog 5 #[.int .i64 n] w fun e w' => Made w n e w' := by
  obtain ⟨i0, hi, hz0, hz1, hz2⟩ := info_parts info24
  go_enter Yba.func5, Yba.ntmps5
  go_wp2
  go_loop [4, 5] (fun sl lg => ∃ (k S : Nat), Hid (S = 2 ^ k) ∧ 2 ≤ k ∧ k ≤ 10 ∧ 4 ≤ S ∧ S ≤ 1024 ∧ sl = .int .i64 S ∧ lg = .int .u64 k) (fun sl _ => 2048 - (intOf sl).toNat)
  case atStart => exact ⟨2, 4, rfl, by omega, by omega, by omega, by omega, rfl, rfl⟩
  case round =>
    obtain ⟨k, S, HS, hk1, hk2, hS1, hS2, rfl, rfl⟩ := hrel
    by_cases hlt : (S : Int) < 2 * n
    · have hk9 : k ≤ 9 := pow_le10 k (by rw [← HS.out]; omega)
      have hS9 : S ≤ 512 := by rw [HS.out]; exact Nat.le_trans (Nat.pow_le_pow_right (by decide) hk9) (by decide)
      go_wp2
      go_round
      case rel => exact ⟨k + 1, S * 2, by show S * 2 = 2 ^ (k + 1); rw [HS.out, Nat.pow_succ], by omega, by omega, by omega, by omega, by go_num, by go_num⟩
      case measure => simp [intOf]; omega
    · go_upto_region 7 with (at_make; refine wpList_make_full _ rfl (.tmp 16) (.tmp 16) 22 rfl w.heap.size 24 i0 (.int .u64 0) 1 Yba.underlying22 hi hz0 hz1 .i64 .i64 (2 * S) (2 * S) (2 * S) rfl rfl (by simp) (by simp) (by rw [hz2]; omega) (by unfold maxLen; omega) (by simp) ?_; intro w1 hown1 hgrow1)
      have hr : w1.heap[w.heap.size]? = some (.cells #[.pointer none, .int .u64 0, .int .u64 0] 28 (0, 0)) := (hgrow1.block _ (by simp) (by simp)).trans (Go.heap_alloc_new w _)
      have hws := made_words hown1
      have hgl := lt_of_block hws
      have hbel1 : Below w.heap.size w w1 := ((Below.refl _ _).alloc (Nat.le_refl _) _).grown hgrow1 (by simp) (fun q hq => by cases hq)
      have r0 : w1.cell? ⟨w.heap.size, 0, none⟩ = some (.pointer none) := by rw [cell_of_row _ _ _ _ _ _ hr]; rfl
      have r1 : w1.cell? ⟨w.heap.size, 1, none⟩ = some (.int .u64 0) := by rw [cell_of_row _ _ _ _ _ _ hr]; rfl
      have r2 : w1.cell? ⟨w.heap.size, 2, none⟩ = some (.int .u64 0) := by rw [cell_of_row _ _ _ _ _ _ hr]; rfl
      have f0 : w1.frozen? ⟨w.heap.size, 0, none⟩ = false := frozen_of_row _ _ _ _ _ hr
      have f1 : w1.frozen? ⟨w.heap.size, 1, none⟩ = false := frozen_of_row _ _ _ _ _ hr
      have f2 : w1.frozen? ⟨w.heap.size, 2, none⟩ = false := frozen_of_row _ _ _ _ _ hr
      have hrl := lt_of_block hr
      have hws' : w1.heap[w.heap.size + 1]? = some (.cells (words (fun _ => 0) (2 * S)) 24 (0, 0)) := by simpa using hws
      have hgl' := lt_of_block hws'
      have HW : Hid (w1.heap[w.heap.size + 1]? = some (.cells (words (fun _ => 0) (2 * S)) 24 (0, 0))) := hws'
      have HR : Hid (w1.heap[w.heap.size]? = some (.cells #[.pointer none, .int .u64 0, .int .u64 0] 28 (0, 0))) := hr
      clear hr hws hws' hown1 hgrow1 hgl
      go_wp2
      refine bodyPost_ret (v := .tuple #[.agg #[.pointer (some ⟨w1.heap.size, 0, none⟩), .int .u64 (64 - k), .int .u64 0], .int .i64 S]) (by simp [results, Yba.results5, go_sem, hrl, r0, r1, r2]) rfl ?_
      have hz : ∀ (v1 v2 v3 : Value), (((w1.setCell ⟨w.heap.size, 0, none⟩ v1).setCell ⟨w.heap.size, 1, none⟩ v2).setCell ⟨w.heap.size, 2, none⟩ v3).heap.size = w1.heap.size := fun _ _ _ => by simp [World.setCell]
      refine ⟨k, S, w.heap.size + 1, w1.heap.size, HS.out, hk1, hk2, hS1, hS2, by omega, rfl, ?_, ?_, by omega, by omega, by omega, by simp [World.setCell], ?_⟩
      · have h := Go.heap_alloc_new (((w1.setCell ⟨w.heap.size, 0, none⟩ (.pointer (some ⟨w1.heap.size, 0, none⟩))).setCell ⟨w.heap.size, 1, none⟩ (.int .u64 (64 - k))).setCell ⟨w.heap.size, 2, none⟩ (.int .u64 0))
          (.cells #[.bool false, .int .u64 0, .slice none 0 0, .slice none 0 0, .int .i64 0, .int .i64 0, .slice (some ⟨w.heap.size + 1, 0, none⟩) (2 * S) (2 * S), .int .u64 0, .int .i64 0, .bool false, .slice none 0 0, .slice none 0 0, .slice none 0 0, .slice none 0 0, .int .i64 0, .slice none 0 0, .slice none 0 0, .int .i64 0, .int .i64 0, .int .i64 0, .int .i64 0, .slice none 0 0] 51)
        rw [hz] at h
        rw [cell_of_row _ _ _ _ _ _ h]
        rfl
      · rw [Below.heap_alloc _ _ _ (by rw [hz]; exact hgl'), Below.heap_setCell _ _ _ _ (by simp), Below.heap_setCell _ _ _ _ (by simp), Below.heap_setCell _ _ _ _ (by simp)]
        exact HW.out
      · exact (((hbel1.setCell (Nat.le_refl _) _).setCell (Nat.le_refl _) _).setCell (Nat.le_refl _) _).alloc (by rw [hz]; omega) _

set_option maxHeartbeats 400000 in
/-- The first place at which a key stands. -/
theorem find_yes (b m c : Nat) (K : Nat → Int) (k : Int) (j : Nat) (hj : j < m) (hm : m ≤ 1024) (hjk : K j = k) (hne : ∀ i, i < j → K i ≠ k) (w : World) (hc : ∀ i, i < m → w.cell? ⟨b, i, none⟩ = some (.int .u64 (K i))) :
    Calls Yba.prog 9 #[.slice (some ⟨b, 0, none⟩) m c, .int .u64 k] w fun e w' => e = .returned (.int .i64 j) ∧ w' = w := by
  have HJ : Hid (K j = k) := hjk
  have HN : Hid (∀ i, i < j → K i ≠ k) := hne
  clear hjk hne
  go_enter Yba.func9, Yba.ntmps9
  go_wp2
  go_loop [5] (fun i => ∃ d : Nat, d ≤ j ∧ i = .int .i64 d) (fun i => j - (intOf i).toNat)
  case atStart => exact ⟨0, Nat.zero_le _, rfl⟩
  case round =>
    obtain ⟨d, hd, rfl⟩ := hrel
    have c0 := hc d (by omega)
    by_cases h : d = j
    · subst h
      rw [HJ.out] at c0
      clear hc
      go_wp2
      go_ret
      exact ⟨rfl, rfl⟩
    · have e1 : (K d == k) = false := beq_eq_false_iff_ne.2 (HN.out d (by omega))
      go_wp2
      go_round
      case rel => exact ⟨d + 1, by omega, by go_num⟩
      case measure => simp [intOf]; omega

set_option maxHeartbeats 400000 in
theorem find_no (b m c : Nat) (K : Nat → Int) (k : Int) (hm : m ≤ 1024) (hne : ∀ i, i < m → K i ≠ k) (w : World) (hc : ∀ i, i < m → w.cell? ⟨b, i, none⟩ = some (.int .u64 (K i))) :
    Calls Yba.prog 9 #[.slice (some ⟨b, 0, none⟩) m c, .int .u64 k] w fun e w' => e = .returned (.int .i64 (-1)) ∧ w' = w := by
  have HN : Hid (∀ i, i < m → K i ≠ k) := hne
  clear hne
  go_enter Yba.func9, Yba.ntmps9
  go_wp2
  go_loop [5] (fun i => ∃ d : Nat, d ≤ m ∧ i = .int .i64 d) (fun i => m - (intOf i).toNat)
  case atStart => exact ⟨0, Nat.zero_le _, rfl⟩
  case round =>
    obtain ⟨d, hd, rfl⟩ := hrel
    by_cases h : d < m
    · have c0 := hc d h
      have e1 : (K d == k) = false := beq_eq_false_iff_ne.2 (HN.out d h)
      go_wp2
      go_round
      case rel => exact ⟨d + 1, by omega, by go_num⟩
      case measure => simp [intOf]; omega
    · go_wp2
      go_ret
      exact ⟨rfl, rfl⟩
end Go.Proofs.Ybulkabsk.Tab
