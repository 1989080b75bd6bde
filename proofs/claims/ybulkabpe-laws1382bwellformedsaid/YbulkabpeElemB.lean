import Derived.Test.YbulkabpeNext
namespace Go.Proofs.Ybulkabpe.ElemB
open Go.RowKit Go.Proofs.Ybulkabpe.Mem
set_option linter.unusedVariables false
set_option linter.unusedSimpArgs false

abbrev Z35 : Obj := .cells #[.int .u64 0, .slice none 0 0] 35

/-- What Next leaves of a primitive element with a one-octet tag and a short length: the element, and what follows it; of all blocks that were there the reader's own alone has turned. -/
def Post (sb b off len cap m : Nat) (t : Int) (w : World) (e : Ending) (w' : World) : Prop :=
  w.grownBy w' (some sb) ∧ ∃ (ca ra : Addr), e = .returned (.tuple #[.agg #[.int .u64 t, .slice (some ca) m m], .bool true]) ∧
    w'.heap[sb]? = some (.cells #[.slice (some ra) (len - (2 + m)) (cap - (2 + m)), .nilIface] 31 (0, 0)) ∧
    (0 < m → ca = ⟨b, off + 2, none⟩) ∧ (2 + m < len → ra = ⟨b, off + (2 + m), none⟩)

set_option maxRecDepth 100000 in
set_option maxHeartbeats 2000000 in
theorem short (sb b off len cap : Nat) (z : Nat → Int) (m : Nat) (w : World) (hs : w.heap[sb]? = some (.cells #[.slice (some ⟨b, off, none⟩) len cap, .nilIface] 31 (0, 0))) (hlen : len ≤ 65536) (hm : cap ≤ 9223372036854775807) (hcap : len ≤ cap) (hb : b < sb)
    (hc : ∀ j, j < len → w.cell? ⟨b, off + j, none⟩ = some (.int .u8 (z j))) (h0 : 1 ≤ z 0) (h0' : z 0 ≤ 30) (h1 : z 1 = m) (h1' : m ≤ 127) (hfit : 2 + m ≤ len) :
    Calls Yba.prog 7 #[.pointer (some ⟨sb, 0, none⟩)] w fun e w' => Post sb b off len cap m (z 0) w e w' := by
  have hsz := lt_of_block hs
  have c0 : w.cell? ⟨sb, 0, none⟩ = some (.slice (some ⟨b, off, none⟩) len cap) := by rw [cell_of_row _ _ _ _ _ _ hs]; rfl
  have HS : Hid (w.heap[sb]? = some (.cells #[.slice (some ⟨b, off, none⟩) len cap, .nilIface] 31 (0, 0))) := hs
  have H1 : Hid (z 1 = m) := h1
  clear hs h1
  have hbel0 : Below w.heap.size w (w.alloc Z35) := (Below.refl _ _).alloc (Nat.le_refl _) _
  have hn0 : ((len : Int) == 0) = false := beq_eq_false_iff_ne.2 (by omega)
  go_enter Yba.func7, Yba.ntmps7
  go_wp2_with fail
  refine (Next.short b off len cap z m _ hlen hm hcap (by simp; omega) (fun j hj => (hbel0.cell (p := ⟨b, off + j, none⟩) (show b < _ by omega)).trans (hc j hj)) h0 h0' H1.out h1' hfit).mono ?_
  rintro e w1 ⟨rfl, hb1⟩
  have hbel1 : Below w.heap.size w w1 := hbel0.trans (hb1.mono (by simp))
  have hres : w1.heap[w.heap.size]? = some Z35 := (hb1.block _ (by simp)).trans (Go.heap_alloc_new w _)
  have hss : w1.heap[sb]? = some (.cells #[.slice (some ⟨b, off, none⟩) len cap, .nilIface] 31 (0, 0)) := (hbel1.block _ hsz).trans HS.out
  have hsz1 := lt_of_block hres
  have hsz2 : sb < w1.heap.size := by omega
  have r0 : w1.cell? ⟨w.heap.size, 0, none⟩ = some (.int .u64 0) := by rw [cell_of_row _ _ _ _ _ _ hres]; rfl
  have r1 : w1.cell? ⟨w.heap.size, 1, none⟩ = some (.slice none 0 0) := by rw [cell_of_row _ _ _ _ _ _ hres]; rfl
  have f0 : w1.frozen? ⟨w.heap.size, 0, none⟩ = false := frozen_of_row _ _ _ _ _ hres
  have f1 : w1.frozen? ⟨w.heap.size, 1, none⟩ = false := frozen_of_row _ _ _ _ _ hres
  have q0 : w1.cell? ⟨sb, 0, none⟩ = some (.slice (some ⟨b, off, none⟩) len cap) := by rw [cell_of_row _ _ _ _ _ _ hss]; rfl
  have g0 : w1.frozen? ⟨sb, 0, none⟩ = false := frozen_of_row _ _ _ _ _ hss
  have HR : Hid (w1.heap[w.heap.size]? = some Z35 ∧ w1.heap[sb]? = some (.cells #[.slice (some ⟨b, off, none⟩) len cap, .nilIface] 31 (0, 0))) := ⟨hres, hss⟩
  clear hres hss c0
  have i3 : (2 : Int) + m ≤ (cap : Int) := by omega
  have i4 : (2 : Int) + m ≤ (len : Int) := by omega
  have hne : sb ≠ w.heap.size := by omega
  have hsz3 : sb < w1.heap.size + 1 := by omega
  have hsz4 : w.heap.size < w1.heap.size + 1 := by omega
  have Hend : Hid (∀ (ca ra : Addr) (o1 o2 : Obj) (cv rv : Value), (0 < m → ca = ⟨b, off + 2, none⟩) → (2 + m < len → ra = ⟨b, off + (2 + m), none⟩) → cv = .slice (some ca) m m → rv = .slice (some ra) (len - (2 + m)) (cap - (2 + m)) →
      Post sb b off len cap m (z 0) w (.returned (.tuple #[.agg #[.int .u64 (z 0), cv], .bool true])) (((((((w1.setCell ⟨sb, 0, none⟩ rv).setCell ⟨w.heap.size, 0, none⟩ (.int .u64 (z 0))).setCell ⟨w.heap.size, 1, none⟩ cv).alloc o1).alloc o2).drew).drew)) := by
    rintro ca ra o1 o2 cv rv h1 h2 rfl rfl
    refine ⟨⟨hbel1.os, hbel1.tape, hbel1.output, ?_, fun k hk hks => ?_⟩, ca, ra, rfl, ?_, h1, h2⟩
    · have := hbel1.size
      show w.heap.size ≤ (((((w1.setCell ⟨sb, 0, none⟩ _).setCell ⟨w.heap.size, 0, none⟩ _).setCell ⟨w.heap.size, 1, none⟩ _).alloc o1).alloc o2).heap.size
      simp; omega
    · show (((((w1.setCell ⟨sb, 0, none⟩ _).setCell ⟨w.heap.size, 0, none⟩ _).setCell ⟨w.heap.size, 1, none⟩ _).alloc o1).alloc o2).heap[k]? = _
      have hkn : k ≠ w.heap.size := by omega
      have hks' : k ≠ sb := fun e => hks (by rw [e])
      rw [Below.heap_alloc _ _ _ (by simp; omega), Below.heap_alloc _ _ _ (by simp; omega), Below.heap_setCell _ _ _ _ (by simpa using hkn), Below.heap_setCell _ _ _ _ (by simpa using hkn), Below.heap_setCell _ _ _ _ (by simpa using hks')]
      exact hbel1.block _ hk
    · show (((((w1.setCell ⟨sb, 0, none⟩ _).setCell ⟨w.heap.size, 0, none⟩ _).setCell ⟨w.heap.size, 1, none⟩ _).alloc o1).alloc o2).heap[sb]? = _
      rw [Below.heap_alloc _ _ _ (by simp; omega), Below.heap_alloc _ _ _ (by simp; omega), Below.heap_setCell _ _ _ _ (by simpa using hne), Below.heap_setCell _ _ _ _ (by simpa using hne)]
      exact Walk.block_set HR.out.2
  by_cases hns : m = 0
  · subst hns
    by_cases hcx : cap = 2
    · subst hcx
      go_wp2
      go_region
      go_wp2
      go_region
      go_wp2
      refine bodyPost_ret (v := .tuple #[.agg #[.int .u64 (z 0), .slice (some ⟨b, off, none⟩) 0 0], .bool true]) (by simp [results, Yba.results7, go_sem, hsz1, hsz4, r0, r1]) rfl ?_
      exact Hend.out ⟨b, off, none⟩ ⟨b, off, none⟩ _ _ _ _ (fun h => by first | rfl | omega) (fun h => by first | rfl | omega) rfl (by rw [show len - (2 + 0) = 0 from by omega])
    · go_wp2
      go_region
      go_wp2
      go_region
      go_wp2
      refine bodyPost_ret (v := .tuple #[.agg #[.int .u64 (z 0), .slice (some ⟨b, off, none⟩) 0 0], .bool true]) (by simp [results, Yba.results7, go_sem, hsz1, hsz4, r0, r1]) rfl ?_
      exact Hend.out ⟨b, off, none⟩ ⟨b, off + 2, none⟩ _ _ _ _ (fun h => by first | rfl | omega) (fun h => by first | rfl | omega) rfl rfl
  · by_cases hcx : cap = 2 + m
    · subst hcx
      go_wp2
      go_region
      go_wp2
      go_region
      go_wp2
      refine bodyPost_ret (v := .tuple #[.agg #[.int .u64 (z 0), .slice (some ⟨b, off + 2, none⟩) m m], .bool true]) (by simp [results, Yba.results7, go_sem, hsz1, hsz4, r0, r1]) rfl ?_
      exact Hend.out ⟨b, off + 2, none⟩ ⟨b, off, none⟩ _ _ _ _ (fun h => by first | rfl | omega) (fun h => by first | rfl | omega) rfl (by rw [show len - (2 + m) = 0 from by omega, Nat.sub_self])
    · go_wp2
      go_region
      go_wp2
      go_region
      go_wp2
      refine bodyPost_ret (v := .tuple #[.agg #[.int .u64 (z 0), .slice (some ⟨b, off + 2, none⟩) m m], .bool true]) (by simp [results, Yba.results7, go_sem, hsz1, hsz4, r0, r1]) rfl ?_
      exact Hend.out ⟨b, off + 2, none⟩ ⟨b, off + (2 + m), none⟩ _ _ _ _ (fun h => by first | rfl | omega) (fun h => by first | rfl | omega) rfl rfl
end Go.Proofs.Ybulkabpe.ElemB
