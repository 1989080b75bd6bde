import Derived.Test.YbulkabpeWalk
namespace Go.Proofs.Ybulkabpe.Next
open Go.RowKit Go.Proofs.Ybulkabpe.Mem
set_option linter.unusedVariables false
set_option linter.unusedSimpArgs false

set_option maxRecDepth 100000 in
set_option maxHeartbeats 1000000 in
/-- next: the element at the start of b. -/
theorem any (b off len cap : Nat) (z : Nat → Int) (w : World) (hl0 : 0 < len) (hlen : len ≤ 65536) (hm : cap ≤ 9223372036854775807) (hcap : len ≤ cap) (hb : b < w.heap.size)
    (hc : ∀ j, j < len → w.cell? ⟨b, off + j, none⟩ = some (.int .u8 (z j))) (hz : ∀ j, 0 ≤ z j ∧ z j < 256) :
    Calls Yba.prog 10 #[.slice (some ⟨b, off, none⟩) len cap] w fun e w' => Walk.Post len e ∧ Below w.heap.size w w' := by
  have hbel0 : Below w.heap.size w (w.alloc Walk.Z44) := (Below.refl _ _).alloc (Nat.le_refl _) _
  go_enter Yba.func10, Yba.ntmps10
  go_wp2_with fail
  refine (Hdr.any b off len cap z _ hl0 hlen hm hcap (by simp; omega) (fun j hj => (hbel0.cell (p := ⟨b, off + j, none⟩) hb).trans (hc j hj)) hz).mono ?_
  rintro e w1 ⟨hP, hb1⟩
  have hbel1 : Below w.heap.size w w1 := hbel0.trans (hb1.mono (by simp))
  have hres : w1.heap[w.heap.size]? = some Walk.Z44 := (hb1.block _ (by simp)).trans (Go.heap_alloc_new w _)
  have hsz := lt_of_block hres
  have r0 : w1.cell? ⟨w.heap.size, 0, none⟩ = some (.int .u64 0) := by rw [cell_of_row _ _ _ _ _ _ hres]; rfl
  have r1 : w1.cell? ⟨w.heap.size, 1, none⟩ = some (.int .i64 0) := by rw [cell_of_row _ _ _ _ _ _ hres]; rfl
  have r2 : w1.cell? ⟨w.heap.size, 2, none⟩ = some (.int .i64 0) := by rw [cell_of_row _ _ _ _ _ _ hres]; rfl
  have r3 : w1.cell? ⟨w.heap.size, 3, none⟩ = some (.int .i64 0) := by rw [cell_of_row _ _ _ _ _ _ hres]; rfl
  have f0 : w1.frozen? ⟨w.heap.size, 0, none⟩ = false := frozen_of_row _ _ _ _ _ hres
  have f1 : w1.frozen? ⟨w.heap.size, 1, none⟩ = false := frozen_of_row _ _ _ _ _ hres
  have f2 : w1.frozen? ⟨w.heap.size, 2, none⟩ = false := frozen_of_row _ _ _ _ _ hres
  have f3 : w1.frozen? ⟨w.heap.size, 3, none⟩ = false := frozen_of_row _ _ _ _ _ hres
  have HR : Hid (w1.heap[w.heap.size]? = some Walk.Z44) := hres
  clear hres
  rcases hP with ⟨k, rfl⟩ | ⟨t, c, s, l, rfl, ht1, ht2, hs1, hs2, hl1, hl2⟩
  · go_wp2
    refine bodyPost_ret (v := .tuple #[.agg #[.int .u64 0, .int .i64 0, .int .i64 0, .int .i64 0], .iface 51 (.int .u8 k)]) (by simp [results, Yba.results10, go_sem, hsz, r0, r1, r2, r3]) rfl ⟨.inl ⟨k, rfl⟩, ?_⟩
    exact ((((hbel1.setCell (Nat.le_refl _) _).setCell (Nat.le_refl _) _).setCell (Nat.le_refl _) _).setCell (Nat.le_refl _) _).alloc (by simp; omega) _
  · rcases hl1 with rfl | hl0'
    · have hbel2 : ∀ o, Below w.heap.size w (w1.alloc o) := fun o => hbel1.alloc (by omega) o
      go_wp2_with fail
      refine (Walk.any b off len cap z _ hlen hm hcap (by simp; omega) (fun j hj => ((hbel2 _).cell (p := ⟨b, off + j, none⟩) hb).trans (hc j hj)) hz).mono ?_
      rintro e w2 ⟨hP, hb2⟩
      have hbel3 : Below w.heap.size w w2 := (hbel2 _).trans (hb2.mono (by simp; omega))
      have hres : w2.heap[w.heap.size]? = some Walk.Z44 := (hb2.block _ (by simp; omega)).trans ((Below.heap_alloc _ _ _ hsz).trans HR.out)
      have hsz2 := lt_of_block hres
      clear r0 r1 r2 r3 f0 f1 f2 f3
      have r0 : w2.cell? ⟨w.heap.size, 0, none⟩ = some (.int .u64 0) := by rw [cell_of_row _ _ _ _ _ _ hres]; rfl
      have r1 : w2.cell? ⟨w.heap.size, 1, none⟩ = some (.int .i64 0) := by rw [cell_of_row _ _ _ _ _ _ hres]; rfl
      have r2 : w2.cell? ⟨w.heap.size, 2, none⟩ = some (.int .i64 0) := by rw [cell_of_row _ _ _ _ _ _ hres]; rfl
      have r3 : w2.cell? ⟨w.heap.size, 3, none⟩ = some (.int .i64 0) := by rw [cell_of_row _ _ _ _ _ _ hres]; rfl
      have f0 : w2.frozen? ⟨w.heap.size, 0, none⟩ = false := frozen_of_row _ _ _ _ _ hres
      have f1 : w2.frozen? ⟨w.heap.size, 1, none⟩ = false := frozen_of_row _ _ _ _ _ hres
      have f2 : w2.frozen? ⟨w.heap.size, 2, none⟩ = false := frozen_of_row _ _ _ _ _ hres
      have f3 : w2.frozen? ⟨w.heap.size, 3, none⟩ = false := frozen_of_row _ _ _ _ _ hres
      clear hres
      rcases hP with ⟨k, rfl⟩ | ⟨t', s', n', x', rfl, hh⟩
      · go_wp2
        refine bodyPost_ret (v := .tuple #[.agg #[.int .u64 0, .int .i64 0, .int .i64 0, .int .i64 0], .iface 51 (.int .u8 k)]) (by simp [results, Yba.results10, go_sem, hsz2, r0, r1, r2, r3]) rfl ⟨.inl ⟨k, rfl⟩, ?_⟩
        exact (((hbel3.setCell (Nat.le_refl _) _).setCell (Nat.le_refl _) _).setCell (Nat.le_refl _) _).setCell (Nat.le_refl _) _
      · go_wp2
        refine bodyPost_ret (v := .tuple #[.agg #[.int .u64 t', .int .i64 s', .int .i64 n', .int .i64 x'], .nilIface]) (by simp [results, Yba.results10, go_sem, hsz2, r0, r1, r2, r3]) rfl ⟨.inr ⟨t', s', n', x', rfl, hh⟩, ?_⟩
        exact (((hbel3.setCell (Nat.le_refl _) _).setCell (Nat.le_refl _) _).setCell (Nat.le_refl _) _).setCell (Nat.le_refl _) _
    · obtain ⟨sn, rfl⟩ := Int.eq_ofNat_of_zero_le (show 0 ≤ s by omega)
      obtain ⟨ln, rfl⟩ := Int.eq_ofNat_of_zero_le hl0'
      have e1 : ((ln : Int) == -1) = false := beq_eq_false_iff_ne.2 (by omega)
      go_wp2
      refine bodyPost_ret (v := .tuple #[.agg #[.int .u64 t, .int .i64 sn, .int .i64 (sn + ln), .int .i64 (sn + ln)], .nilIface]) (by simp [results, Yba.results10, go_sem, hsz, r0, r1, r2, r3]) rfl ⟨.inr ⟨t, sn, sn + ln, sn + ln, by simp, ht1, ht2, by omega, by omega, by omega, by omega⟩, ?_⟩
      exact ((((hbel1.setCell (Nat.le_refl _) _).setCell (Nat.le_refl _) _).setCell (Nat.le_refl _) _).setCell (Nat.le_refl _) _).alloc (by simp; omega) _

set_option maxRecDepth 100000 in
set_option maxHeartbeats 1000000 in
/-- next over a primitive element with a one-octet tag and a short length: the span, exactly. -/
theorem short (b off len cap : Nat) (z : Nat → Int) (m : Nat) (w : World) (hlen : len ≤ 65536) (hm : cap ≤ 9223372036854775807) (hcap : len ≤ cap) (hb : b < w.heap.size)
    (hc : ∀ j, j < len → w.cell? ⟨b, off + j, none⟩ = some (.int .u8 (z j))) (h0 : 1 ≤ z 0) (h0' : z 0 ≤ 30) (h1 : z 1 = m) (h1' : m ≤ 127) (hfit : 2 + m ≤ len) :
    Calls Yba.prog 10 #[.slice (some ⟨b, off, none⟩) len cap] w fun e w' => e = .returned (.tuple #[.agg #[.int .u64 (z 0), .int .i64 2, .int .i64 (2 + m), .int .i64 (2 + m)], .nilIface]) ∧ Below w.heap.size w w' := by
  have hbel0 : Below w.heap.size w (w.alloc Walk.Z44) := (Below.refl _ _).alloc (Nat.le_refl _) _
  have H1 : Hid (z 1 = m) := h1
  clear h1
  go_enter Yba.func10, Yba.ntmps10
  go_wp2_with fail
  refine (Hdr.short b off len cap z _ hlen hm hcap (by simp; omega) (fun j hj => (hbel0.cell (p := ⟨b, off + j, none⟩) hb).trans (hc j hj)) h0 h0' (by rw [H1.out]; omega) (by rw [H1.out]; omega) (by rw [H1.out]; omega)).mono ?_
  rw [H1.out]
  rintro e w1 ⟨rfl, hb1⟩
  have hbel1 : Below w.heap.size w w1 := hbel0.trans (hb1.mono (by simp))
  have hres : w1.heap[w.heap.size]? = some Walk.Z44 := (hb1.block _ (by simp)).trans (Go.heap_alloc_new w _)
  have hsz := lt_of_block hres
  have r0 : w1.cell? ⟨w.heap.size, 0, none⟩ = some (.int .u64 0) := by rw [cell_of_row _ _ _ _ _ _ hres]; rfl
  have r1 : w1.cell? ⟨w.heap.size, 1, none⟩ = some (.int .i64 0) := by rw [cell_of_row _ _ _ _ _ _ hres]; rfl
  have r2 : w1.cell? ⟨w.heap.size, 2, none⟩ = some (.int .i64 0) := by rw [cell_of_row _ _ _ _ _ _ hres]; rfl
  have r3 : w1.cell? ⟨w.heap.size, 3, none⟩ = some (.int .i64 0) := by rw [cell_of_row _ _ _ _ _ _ hres]; rfl
  have f0 : w1.frozen? ⟨w.heap.size, 0, none⟩ = false := frozen_of_row _ _ _ _ _ hres
  have f1 : w1.frozen? ⟨w.heap.size, 1, none⟩ = false := frozen_of_row _ _ _ _ _ hres
  have f2 : w1.frozen? ⟨w.heap.size, 2, none⟩ = false := frozen_of_row _ _ _ _ _ hres
  have f3 : w1.frozen? ⟨w.heap.size, 3, none⟩ = false := frozen_of_row _ _ _ _ _ hres
  clear hres
  have e1 : ((m : Int) == -1) = false := beq_eq_false_iff_ne.2 (by omega)
  go_wp2
  refine bodyPost_ret (v := .tuple #[.agg #[.int .u64 (z 0), .int .i64 2, .int .i64 (2 + m), .int .i64 (2 + m)], .nilIface]) (by simp [results, Yba.results10, go_sem, hsz, r0, r1, r2, r3]) rfl ⟨rfl, ?_⟩
  exact ((((hbel1.setCell (Nat.le_refl _) _).setCell (Nat.le_refl _) _).setCell (Nat.le_refl _) _).setCell (Nat.le_refl _) _).alloc (by simp; omega) _
end Go.Proofs.Ybulkabpe.Next
