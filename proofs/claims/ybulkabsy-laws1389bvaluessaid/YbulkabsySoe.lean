import Derived.Test.YbulkabsySob
import Derived.Test.YbulkabsySod
namespace Go.Proofs.Ybulkabsy.So
open Go.RowKit Go.Sort Go.Proofs.Ybulkabsy.Srch
set_option linter.unusedVariables false
set_option linter.unusedSimpArgs false

/-- Where breakPatterns stands. -/
structure Br (w w' : World) (blk off : Nat) (d : Array Int) (rb : Nat) (v : Int) : Prop where
  st : St w w' blk off d
  cell : w'.cell? ⟨rb, 0, none⟩ = some (.int .u64 v)
  froz : w'.frozen? ⟨rb, 0, none⟩ = false
  lo : 0 ≤ v
  hi : v < 18446744073709551616
theorem Br.xs {w w' : World} {blk off : Nat} {d : Array Int} {rb : Nat} {v : Int} (h : Br w w' blk off d rb v) : Xs w' w' rb v := ⟨grown_refl _ _, h.cell, h.froz, h.lo, h.hi⟩
theorem Br.next {w w' w'' : World} {blk off : Nat} {d : Array Int} {rb : Nat} {u v : Int} (h : Br w w' blk off d rb u) (k : Xs w' w'' rb v) (h1 : blk < w.heap.size) (h2 : w.heap.size ≤ rb) : Br w w'' blk off d rb v := by
  have hs := h.st.1.size
  refine ⟨⟨⟨k.grown.os.trans h.st.1.os, k.grown.tape.trans h.st.1.tape, k.grown.output.trans h.st.1.output, Nat.le_trans hs k.grown.size, fun i hi hne => ?_⟩, ?_⟩, k.cell, k.froz, k.lo, k.hi⟩
  · rw [k.grown.block i (by omega) (by simp; omega)]
    exact h.st.1.block i hi hne
  · exact holds_same (k.grown.block blk (by omega) (by simp; omega)) h.st.2
theorem Br.swap {w w' : World} {blk off : Nat} {d : Array Int} {rb : Nat} {v : Int} (h : Br w w' blk off d rb v) (hne : rb ≠ blk) (i j : Nat) (hi : i < d.size) (hj : j < d.size) :
    Br w ((w'.setCell ⟨blk, off + i, none⟩ (.int .u16 d[j]!)).setCell ⟨blk, off + j, none⟩ (.int .u16 d[i]!)) blk off (swp d i j) rb v := by
  have hb : ((w'.setCell ⟨blk, off + i, none⟩ (.int .u16 d[j]!)).setCell ⟨blk, off + j, none⟩ (.int .u16 d[i]!)).heap[rb]? = w'.heap[rb]? := by
    rw [Go.RowKit.Below.heap_setCell _ _ _ _ hne, Go.RowKit.Below.heap_setCell _ _ _ _ hne]
  refine ⟨h.st.swap i j hi hj, ?_, ?_, h.lo, h.hi⟩
  · have := h.cell
    simpa only [World.cell?, hb] using this
  · have := h.froz
    simpa only [World.frozen?, hb] using this
theorem Br.drew {w w' : World} {blk off : Nat} {d : Array Int} {rb : Nat} {v : Int} (h : Br w w' blk off d rb v) : Br w w'.drew blk off d rb v := ⟨h.st.drew, h.cell, h.froz, h.lo, h.hi⟩
theorem br_new {w : World} {blk off : Nat} {d : Array Int} (hlt : blk < w.heap.size) (h : Holds (Value.int .u16) w blk off d) (v : Int) (h0 : 0 ≤ v) (h1 : v < 18446744073709551616) : Br w (w.alloc (.cells #[.int .u64 v] 64)) blk off d w.heap.size v := by
  have hb := Go.heap_alloc_new w (.cells #[.int .u64 v] 64)
  refine ⟨⟨⟨rfl, rfl, rfl, by simp, fun k hk _ => Go.RowKit.Below.heap_alloc _ _ _ hk⟩, holds_same (Go.RowKit.Below.heap_alloc _ _ _ hlt) h⟩, ?_, ?_, h0, h1⟩
  · rw [cell_of_row _ _ _ _ _ _ hb]; rfl
  · exact frozen_of_row _ _ _ _ _ hb
theorem mask_mod (k : Nat) (hk : k ≤ 20) (M : Nat) (hM : M = 2 ^ k) (u : Int) (h0 : 0 ≤ u) (h1 : u < 18446744073709551616) : bits .and .u64 u ((M : Int) - 1) = ((u.toNat % M : Nat) : Int) := by
  have hwr : ∀ n : Int, 0 ≤ n → n < 2 ^ 64 → IntKind.u64.wrap n = n := fun n h h' => by rw [IntKind.wrap_u64]; omega
  have := bits_mask .u64 64 (by decide) hwr k (by omega) u h0 (by simpa using h1)
  subst hM
  rw [show (((2 ^ k : Nat) : Int)) = (2 : Int) ^ k from by simp, this]
  obtain ⟨m, rfl⟩ := Int.eq_ofNat_of_zero_le h0
  simp

set_option maxRecDepth 100000 in
set_option maxHeartbeats 2000000 in
theorem brk23 (blk off n cap a b : Nat) (d : Array Int) (w : World) (hn : d.size = n) (hn2 : n ≤ 100000) (hab : a + 12 < b) (hbn : b ≤ n) (hH : Holds (Value.int .u16) w blk off d) :
    Calls Yba.prog 23 #[.slice (some ⟨blk, off, none⟩) n cap, .int .i64 a, .int .i64 b] w fun e w' => e = .returned (.tuple #[]) ∧ ∃ d', PermIn a b d d' ∧ St w w' blk off d' := by
  have hblk : blk < w.heap.size := lt_of_holds hH (by omega)
  have HH : Hid (Holds (Value.int .u16) w blk off d) := hH
  have hquo := quarter a b (by omega)
  obtain ⟨q, hq⟩ : ∃ q, q = (b - a) / 4 := ⟨_, rfl⟩
  rw [← hq] at hquo
  obtain ⟨l, hl⟩ : ∃ l, l = b - a := ⟨_, rfl⟩
  have e1 : (b : Int) - a = l := by omega
  have hq1 : 3 ≤ q := by omega
  have hq2 : 4 * q ≤ l := by omega
  have hl2 : a + l ≤ b := by omega
  have hl3 : b ≤ a + l := by omega
  rw [e1] at hquo
  have H0 : Hid (Br w (w.alloc (.cells #[.int .u64 l] 64)) blk off d w.heap.size l) := br_new hblk hH l (by omega) (by omega)
  clear hH hq hl
  go_enter Yba.func23, Yba.ntmps23
  go_upto_region 1 with fail
  clear e1
  have l8 : 8 ≤ l := by omega
  go_upto_block 0 with (go_at_call 36; go_must (refine (pow36 l (by omega) (by omega) _).mono ?_); rintro e w' ⟨k, hk, hkl, rfl, rfl⟩)
  obtain ⟨M, hM⟩ : ∃ M, M = 2 ^ k := ⟨_, rfl⟩
  have hM0 : 1 ≤ M := by rw [hM]; exact Nat.one_le_two_pow
  have hM1 : M ≤ 2 * l := by rw [hM]; exact hkl
  have hM2 : (2 : Int) ^ k = (M : Int) := by rw [hM]; simp
  have HM : Hid (k ≤ 20 ∧ M = 2 ^ k) := ⟨hk, hM⟩
  rw [hM2]
  clear hM hM2 hkl hk
  go_wp2
  go_loopg [9, 10] 3 (fun gk x _ wr => ∃ (idx : Nat) (d' : Array Int) (v : Int), x = .int .i64 idx ∧ idx + gk = a + q * 2 + 2 ∧ gk ≤ 3 ∧ PermIn a b d d' ∧ Br w wr blk off d' w.heap.size v)
  case atStart => exact ⟨a + q * 2 - 1, d, l, by go_num, by omega, by omega, permIn_refl d a b, H0.out⟩
  case round =>
    clear H0 HH
    obtain ⟨idx, d', v, rfl, hidx, hgk, hperm, hbr⟩ := hrel
    have hd' : d'.size = n := by rw [hperm.1]; exact hn
    have HP : Hid (PermIn a b d d') := hperm
    have HB : Hid (Br w wr blk off d' w.heap.size v) := hbr
    clear hperm hbr
    rcases Nat.eq_zero_or_pos gk with rfl | hgp
    · go_wp2
      go_end0
      exact ⟨rfl, d', HP.out, HB.out.st⟩
    · have g1 : (idx : Int) ≤ (a : Int) + q * 2 + 1 := by omega
      go_upto_region 8 with (go_at_call 37; go_must (refine (xor37 w.heap.size v _ HB.out.xs).mono ?_); rintro e w1 ⟨u, rfl, hX⟩; obtain ⟨o, ho, hmk⟩ : ∃ o : Nat, o < M ∧ bits .and .u64 u ((M : Int) - 1) = (o : Int) := ⟨_, Nat.mod_lt _ (by omega), mask_mod k HM.out.1 M HM.out.2 u hX.lo hX.hi⟩)
      have HB1 : Hid (Br w w1 blk off d' w.heap.size u) := HB.out.next hX hblk (Nat.le_refl _)
      clear hmk hX HB
      go_upto_if 43 with fail
      go_cut [10] (fun y wx => ∃ o' : Nat, y = .int .i64 o' ∧ o' < l ∧ wx = w1)
      case first =>
        by_cases hol : (l : Int) ≤ o
        · go_wp2
          go_meet
          case rel => exact ⟨o - l, by go_num, by omega, rfl⟩
        · go_wp2
          go_meet
          case rel => exact ⟨o, rfl, by omega, rfl⟩
      case rest =>
        obtain ⟨o', rfl, ho', rfl⟩ := hcut
        have hbr := HB1.out
        have c0 := hbr.st.cell idx (by omega)
        have f0 := hbr.st.froz idx (by omega)
        have c1 := hbr.st.cell (a + o') (by omega)
        have f1 := hbr.st.froz (a + o') (by omega)
        have b0 : (idx : Int) < n := by omega
        have b1 : (a : Int) + o' < n := by omega
        have hne : w.heap.size ≠ blk := by omega
        clear hbr
        by_cases hm : idx = a + o'
        · subst hm
          go_wp2
          go_region
          go_wp2
          go_roundg (gk - 1)
          case measure => omega
          case rel =>
            refine ⟨a + o' + 1, swp d' (a + o') (a + o'), u, by go_num, by omega, by omega, permIn_trans _ _ _ _ _ HP.out (swp_permIn d' a b _ _ (by omega) (by omega) (by omega) (by omega) (by omega)), ?_⟩
            exact HB1.out.drew.swap hne (a + o') (a + o') (by omega) (by omega)
        · have hm1 : ¬ a + o' = idx := fun h => hm h.symm
          go_wp2
          go_region
          go_wp2
          go_roundg (gk - 1)
          case measure => omega
          case rel =>
            refine ⟨idx + 1, swp d' idx (a + o'), u, by go_num, by omega, by omega, permIn_trans _ _ _ _ _ HP.out (swp_permIn d' a b _ _ (by omega) (by omega) (by omega) (by omega) (by omega)), ?_⟩
            exact HB1.out.drew.swap hne idx (a + o') (by omega) (by omega)
end Go.Proofs.Ybulkabsy.So
