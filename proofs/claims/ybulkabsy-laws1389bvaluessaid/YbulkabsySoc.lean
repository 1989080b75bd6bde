import Derived.Test.YbulkabsySo
namespace Go.Proofs.Ybulkabsy.So
open Go.RowKit Go.Sort Go.Proofs.Ybulkabsy.Srch
set_option linter.unusedVariables false
set_option linter.unusedSimpArgs false

theorem holds_same {w w' : World} {blk off : Nat} {d : Array Int} (h : w'.heap[blk]? = w.heap[blk]?) (k : Holds (Value.int .u16) w blk off d) : Holds (Value.int .u16) w' blk off d := by
  intro j hj
  obtain ⟨h1, h2⟩ := k j hj
  exact ⟨by simpa only [World.cell?, h] using h1, by simpa only [World.frozen?, h] using h2⟩
theorem lt_of_holds {w : World} {blk off : Nat} {d : Array Int} (k : Holds (Value.int .u16) w blk off d) (h : 0 < d.size) : blk < w.heap.size := by
  have := (k 0 h).1
  exact World.block_lt_of_cell? w ⟨blk, off + 0, none⟩ this

/-- The row holds d, the counter holds s; all other blocks of w stand. -/
structure Sw (w w' : World) (blk off : Nat) (d : Array Int) (sb s : Nat) : Prop where
  grown : w.grownBy w' (some sb)
  holds : Holds (Value.int .u16) w' blk off d
  cell : w'.cell? ⟨sb, 0, none⟩ = some (.int .i64 s)
  froz : w'.frozen? ⟨sb, 0, none⟩ = false
theorem Sw.trans {a b c : World} {blk off : Nat} {d : Array Int} {sb s t : Nat} (h : Sw a b blk off d sb s) (k : Sw b c blk off d sb t) : Sw a c blk off d sb t := ⟨grown_trans h.grown k.grown, k.holds, k.cell, k.froz⟩
theorem Sw.drewN {w w' : World} {blk off : Nat} {d : Array Int} {sb s : Nat} (h : Sw w w' blk off d sb s) (n : Nat) : Sw w (w'.drewN n) blk off d sb s := ⟨⟨h.grown.os, h.grown.tape, h.grown.output, h.grown.size, h.grown.block⟩, h.holds, h.cell, h.froz⟩
theorem Sw.set {w w' : World} {blk off : Nat} {d : Array Int} {sb s : Nat} (h : Sw w w' blk off d sb s) (hne : blk ≠ sb) (t : Nat) : Sw w (w'.setCell ⟨sb, 0, none⟩ (.int .i64 t)) blk off d sb t := by
  refine ⟨grown_trans h.grown (grown_set _ _ _ _), holds_same (Go.RowKit.Below.heap_setCell _ _ _ _ hne) h.holds, ?_, ?_⟩
  · have hc := h.cell
    obtain ⟨cs, e, fr, hb, hk⟩ := cells_of_cell? hc
    have hlt : 0 < cs.size := by
      rcases Nat.lt_or_ge 0 cs.size with h1 | h1
      · exact h1
      · rw [Array.getElem?_eq_none (by omega)] at hk; cases hk
    rw [setCell_eq, cell?_mapBlock _ _ _ _ hb]
    simp [hlt]
  · rw [setCell_eq, frozen?_mapBlock]
    exact h.froz

set_option maxRecDepth 100000 in
set_option maxHeartbeats 1000000 in
theorem order42 (blk off n cap sb s a b : Nat) (d : Array Int) (w : World) (hn : d.size = n) (hn2 : n ≤ 100000) (hne : blk ≠ sb) (hs : s ≤ 100) (ha : a < n) (hb : b < n) (hSw : Hid (Sw w w blk off d sb s)) :
    Calls Yba.prog 42 #[.slice (some ⟨blk, off, none⟩) n cap, .int .i64 a, .int .i64 b, .pointer (some ⟨sb, 0, none⟩)] w fun e w' => ∃ (x y t : Nat), e = .returned (.tuple #[.int .i64 x, .int .i64 y]) ∧ ((x = a ∧ y = b) ∨ (x = b ∧ y = a)) ∧ t ≤ s + 1 ∧ Sw w w' blk off d sb t := by
  have ca := (hSw.out.holds a (by omega)).1
  have cb := (hSw.out.holds b (by omega)).1
  have cs := hSw.out.cell
  have fs := hSw.out.froz
  have ba : (a : Int) < n := by omega
  have bb : (b : Int) < n := by omega
  have Ha : Hid (a < n) := ha
  have Hb : Hid (b < n) := hb
  clear ha hb
  by_cases hl : d[b]! < d[a]!
  · have hbb : decide (d[b]! < d[a]!) = true := by simpa using hl
    go_enter Yba.func42, Yba.ntmps42
    go_wp2
    go_quiet ((go_at_call 27; exact Calls.quiet_of_same (less27 _ _ _)))
    go_wp2
    refine bodyPost_ret (v := .tuple #[.int .i64 b, .int .i64 a]) (by simp [results, Yba.results42, go_sem]) rfl ⟨b, a, s + 1, rfl, .inr ⟨rfl, rfl⟩, Nat.le_refl _, ?_⟩
    exact (hSw.out.drewN _).set hne (s + 1)
  · have hbb : decide (d[b]! < d[a]!) = false := by simpa using hl
    go_enter Yba.func42, Yba.ntmps42
    go_wp2
    go_quiet ((go_at_call 27; exact Calls.quiet_of_same (less27 _ _ _)))
    go_wp2
    refine bodyPost_ret (v := .tuple #[.int .i64 a, .int .i64 b]) (by simp [results, Yba.results42, go_sem]) rfl ⟨a, b, s, rfl, .inl ⟨rfl, rfl⟩, by omega, ?_⟩
    exact hSw.out.drewN _

set_option maxRecDepth 100000 in
set_option maxHeartbeats 1000000 in
theorem median39 (blk off n cap sb s a b c : Nat) (d : Array Int) (w : World) (hn : d.size = n) (hn2 : n ≤ 100000) (hne : blk ≠ sb) (hs : s ≤ 90) (ha : a < n) (hb : b < n) (hc : c < n) (hSw : Hid (Sw w w blk off d sb s)) :
    Calls Yba.prog 39 #[.slice (some ⟨blk, off, none⟩) n cap, .int .i64 a, .int .i64 b, .int .i64 c, .pointer (some ⟨sb, 0, none⟩)] w fun e w' => ∃ (x t : Nat), e = .returned (.int .i64 x) ∧ (x = a ∨ x = b ∨ x = c) ∧ t ≤ s + 3 ∧ Sw w w' blk off d sb t := by
  go_enter Yba.func39, Yba.ntmps39
  go_upto_region 2 with (go_at_call 42; go_must (refine (order42 blk off n cap sb s a b d _ hn hn2 hne (by omega) ha hb hSw).mono ?_); rintro e w1 ⟨x1, y1, t1, rfl, hxy1, ht1, hSw1⟩)
  have h1 : x1 < n ∧ y1 < n := by omega
  have HX1 : Hid (x1 = a ∧ y1 = b ∨ x1 = b ∧ y1 = a) := hxy1
  have H1 : Hid (Sw w w1 blk off d sb t1) := hSw1
  have H1' : Hid (Sw w1 w1 blk off d sb t1) := ⟨grown_refl _ _, hSw1.holds, hSw1.cell, hSw1.froz⟩
  clear hxy1 hSw1
  go_upto_region 3 with (go_at_call 42; go_must (refine (order42 blk off n cap sb t1 y1 c d _ hn hn2 hne (by omega) h1.2 hc H1').mono ?_); rintro e w2 ⟨x2, y2, t2, rfl, hxy2, ht2, hSw2⟩)
  have h2 : x2 < n ∧ y2 < n := by omega
  have HX2 : Hid (x2 = y1 ∧ y2 = c ∨ x2 = c ∧ y2 = y1) := hxy2
  have H2 : Hid (Sw w w2 blk off d sb t2) := H1.out.trans hSw2
  have H2' : Hid (Sw w2 w2 blk off d sb t2) := ⟨grown_refl _ _, hSw2.holds, hSw2.cell, hSw2.froz⟩
  clear hxy2 hSw2 H1 H1'
  go_wp2_with (go_at_call 42; go_must (refine (order42 blk off n cap sb t2 x1 x2 d _ hn hn2 hne (by omega) h1.1 h2.1 H2').mono ?_); rintro e w3 ⟨x3, y3, t3, rfl, hxy3, ht3, hSw3⟩)
  go_ret
  have h3 := HX1.out
  have h4 := HX2.out
  exact ⟨y3, t3, rfl, by omega, by omega, H2.out.trans hSw3⟩

set_option maxRecDepth 100000 in
set_option maxHeartbeats 1000000 in
theorem madj38 (blk off n cap sb s a : Nat) (d : Array Int) (w : World) (hn : d.size = n) (hn2 : n ≤ 100000) (hne : blk ≠ sb) (hs : s ≤ 90) (ha : 1 ≤ a) (ha2 : a + 1 < n) (hSw : Hid (Sw w w blk off d sb s)) :
    Calls Yba.prog 38 #[.slice (some ⟨blk, off, none⟩) n cap, .int .i64 a, .pointer (some ⟨sb, 0, none⟩)] w fun e w' => ∃ (x t : Nat), e = .returned (.int .i64 x) ∧ (a ≤ x + 1 ∧ x ≤ a + 1) ∧ t ≤ s + 3 ∧ Sw w w' blk off d sb t := by
  obtain ⟨k, rfl⟩ : ∃ k, a = k + 1 := ⟨a - 1, by omega⟩
  go_enter Yba.func38, Yba.ntmps38
  go_wp2_with (go_at_call 39; go_must (refine (median39 blk off n cap sb s k (k + 1) (k + 1 + 1) d _ hn hn2 hne (by omega) (by omega) (by omega) (by omega) hSw).mono ?_); rintro e w3 ⟨x, t, rfl, hx, ht, hSw3⟩)
  go_ret
  exact ⟨x, t, rfl, by omega, by omega, hSw3⟩
end Go.Proofs.Ybulkabsy.So
