import Derived.Test.YbulkabsySoc
namespace Go.Proofs.Ybulkabsy.So
open Go.RowKit Go.Sort Go.Proofs.Ybulkabsy.Srch
set_option linter.unusedVariables false
set_option linter.unusedSimpArgs false

theorem quarter (a b : Nat) (h : a ≤ b) : Int.tdiv ((b : Int) - a) 4 = (((b - a) / 4 : Nat) : Int) := by
  rw [show ((b : Int) - a) = ((b - a : Nat) : Int) from by omega]
  rfl
theorem sw_new {w : World} {blk off : Nat} {d : Array Int} (hlt : blk < w.heap.size) (h : Holds (Value.int .u16) w blk off d) : Sw (w.alloc (.cells #[.int .i64 0] 3)) (w.alloc (.cells #[.int .i64 0] 3)) blk off d w.heap.size 0 := by
  have hb := Go.heap_alloc_new w (.cells #[.int .i64 0] 3)
  refine ⟨grown_refl _ _, holds_same (Go.RowKit.Below.heap_alloc _ _ _ hlt) h, ?_, ?_⟩
  · rw [cell_of_row _ _ _ _ _ _ hb]; rfl
  · exact frozen_of_row _ _ _ _ _ hb
theorem st_of_sw {w w' : World} {blk off : Nat} {d : Array Int} {t : Nat} (h : Sw (w.alloc (.cells #[.int .i64 0] 3)) w' blk off d w.heap.size t) : St w w' blk off d := by
  refine ⟨⟨h.grown.os, h.grown.tape, h.grown.output, ?_, fun k hk hne => ?_⟩, h.holds⟩
  · have := h.grown.size
    simp at this
    omega
  · have := h.grown.block k (by simp; omega) (by simp; omega)
    rw [this]
    exact Go.RowKit.Below.heap_alloc _ _ _ hk

/-- What choosePivot hands back. -/
def Piv (w : World) (blk off : Nat) (d : Array Int) (a b : Nat) (e : Ending) (w' : World) : Prop :=
  ∃ (p h : Nat), e = .returned (.tuple #[.int .i64 p, .int .i64 h]) ∧ a ≤ p ∧ p < b ∧ h ≤ 2 ∧ St w w' blk off d

set_option maxRecDepth 100000 in
set_option maxHeartbeats 2000000 in
theorem piv24 (blk off n cap a b : Nat) (d : Array Int) (w : World) (hn : d.size = n) (hn2 : n ≤ 100000) (hab : a + 12 < b) (hbn : b ≤ n) (hH : Holds (Value.int .u16) w blk off d) :
    Calls Yba.prog 24 #[.slice (some ⟨blk, off, none⟩) n cap, .int .i64 a, .int .i64 b] w fun e w' => Piv w blk off d a b e w' := by
  have hblk : blk < w.heap.size := lt_of_holds hH (by omega)
  have hne : blk ≠ w.heap.size := by omega
  have H0 : Hid (Sw (w.alloc (.cells #[.int .i64 0] 3)) (w.alloc (.cells #[.int .i64 0] 3)) blk off d w.heap.size 0) := sw_new hblk hH
  have hquo := quarter a b (by omega)
  obtain ⟨q, hq⟩ : ∃ q, q = (b - a) / 4 := ⟨_, rfl⟩
  rw [← hq] at hquo
  have hq1 : 3 ≤ q := by omega
  have hq2 : a + 4 * q ≤ b := by omega
  clear hH hq
  go_enter Yba.func24, Yba.ntmps24
  go_upto_region 6 with fail
  obtain ⟨i, hi⟩ : ∃ i, i = a + q := ⟨_, rfl⟩
  obtain ⟨j, hj⟩ : ∃ j, j = a + q * 2 := ⟨_, rfl⟩
  obtain ⟨k, hk⟩ : ∃ k, k = a + q * 3 := ⟨_, rfl⟩
  rw [show (a : Int) + q = (i : Int) from by omega, show (a : Int) + q * 2 = (j : Int) from by omega, show (a : Int) + q * 3 = (k : Int) from by omega]
  have i1 : a + 3 ≤ i := by omega
  have i2 : i + 3 ≤ b := by omega
  have j1 : a + 3 ≤ j := by omega
  have j2 : j + 3 ≤ b := by omega
  have k1 : a + 3 ≤ k := by omega
  have k2 : k + 3 ≤ b := by omega
  clear hi hj hk hquo hq1 hq2
  obtain ⟨l, hl⟩ : ∃ l, l = b - a := ⟨_, rfl⟩
  rw [show (b : Int) - a = (l : Int) from by omega]
  have l8 : 8 ≤ l := by omega
  clear hl
  go_upto_if 32 with fail
  go_cut [10, 11, 12] (fun _ y _ wx => ∃ (p t : Nat), y = .int .i64 p ∧ a ≤ p ∧ p < b ∧ t ≤ 12 ∧ Sw (w.alloc (.cells #[.int .i64 0] 3)) wx blk off d w.heap.size t)
  case first =>
    by_cases h50 : (50 : Int) ≤ l
    · go_upto_region 9 with (go_at_call 38; go_must (refine (madj38 blk off n cap w.heap.size 0 i d _ hn hn2 hne (by omega) (by omega) (by omega) H0).mono ?_); rintro e w1 ⟨x1, t1, rfl, hx1, ht1, hSx1⟩)
      have H1 : Hid (Sw (w.alloc (.cells #[.int .i64 0] 3)) w1 blk off d w.heap.size t1) := hSx1
      have H1' : Hid (Sw w1 w1 blk off d w.heap.size t1) := ⟨grown_refl _ _, hSx1.holds, hSx1.cell, hSx1.froz⟩
      clear hSx1 H0
      go_upto_region 10 with (go_at_call 38; go_must (refine (madj38 blk off n cap w.heap.size t1 j d _ hn hn2 hne (by omega) (by omega) (by omega) H1').mono ?_); rintro e w2 ⟨x2, t2, rfl, hx2, ht2, hSx2⟩)
      have H2 : Hid (Sw (w.alloc (.cells #[.int .i64 0] 3)) w2 blk off d w.heap.size t2) := H1.out.trans hSx2
      have H2' : Hid (Sw w2 w2 blk off d w.heap.size t2) := ⟨grown_refl _ _, hSx2.holds, hSx2.cell, hSx2.froz⟩
      clear hSx2 H1 H1'
      go_upto_region 11 with (go_at_call 38; go_must (refine (madj38 blk off n cap w.heap.size t2 k d _ hn hn2 hne (by omega) (by omega) (by omega) H2').mono ?_); rintro e w3 ⟨x3, t3, rfl, hx3, ht3, hSx3⟩)
      have H3 : Hid (Sw (w.alloc (.cells #[.int .i64 0] 3)) w3 blk off d w.heap.size t3) := H2.out.trans hSx3
      have H3' : Hid (Sw w3 w3 blk off d w.heap.size t3) := ⟨grown_refl _ _, hSx3.holds, hSx3.cell, hSx3.froz⟩
      clear hSx3 H2 H2'
      go_wp2_with (go_at_call 39; go_must (refine (median39 blk off n cap w.heap.size t3 x1 x2 x3 d _ hn hn2 hne (by omega) (by omega) (by omega) (by omega) H3').mono ?_); rintro e w4 ⟨x4, t4, rfl, hx4, ht4, hSx4⟩)
      go_meet
      case rel => exact ⟨x4, t4, rfl, by omega, by omega, by omega, H3.out.trans hSx4⟩
    · go_wp2_with (go_at_call 39; go_must (refine (median39 blk off n cap w.heap.size 0 i j k d _ hn hn2 hne (by omega) (by omega) (by omega) (by omega) H0).mono ?_); rintro e w4 ⟨x4, t4, rfl, hx4, ht4, hSx4⟩)
      go_meet
      case rel => exact ⟨x4, t4, rfl, by omega, by omega, by omega, hSx4⟩
  case rest =>
    obtain ⟨p, t, rfl, hp1, hp2, ht, hS⟩ := hcut
    have HS : Hid (St w wc blk off d) := st_of_sw hS
    have cs := hS.cell
    clear hS H0
    by_cases t0 : t = 0
    · subst t0
      have e0 : (((0 : Nat) : Int) == 0) = true := rfl
      go_wp2
      exact bodyPost_ret (v := .tuple #[.int .i64 p, .int .i64 1]) (by simp [results, Yba.results24, go_sem]) rfl ⟨p, 1, rfl, hp1, hp2, by omega, HS.out⟩
    · have e0 : ((t : Int) == 0) = false := by simp; omega
      by_cases t12 : t = 12
      · subst t12
        have e1 : (((12 : Nat) : Int) == 12) = true := rfl
        go_wp2
        exact bodyPost_ret (v := .tuple #[.int .i64 p, .int .i64 2]) (by simp [results, Yba.results24, go_sem]) rfl ⟨p, 2, rfl, hp1, hp2, by omega, HS.out⟩
      · have e1 : ((t : Int) == 12) = false := by simp; omega
        go_wp2
        exact bodyPost_ret (v := .tuple #[.int .i64 p, .int .i64 0]) (by simp [results, Yba.results24, go_sem]) rfl ⟨p, 0, rfl, hp1, hp2, by omega, HS.out⟩
end Go.Proofs.Ybulkabsy.So
