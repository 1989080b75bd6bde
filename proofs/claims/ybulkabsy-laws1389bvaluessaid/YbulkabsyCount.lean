import Derived.Test.YbulkabsyMap
namespace Go.Proofs.Ybulkabsy.Count
open Go.RowKit Go.Proofs.Ybulkabsy.Pop Go.Proofs.Ybulkabsy.Runs Go.Proofs.Ybulkabsy.Map
set_option linter.unusedVariables false
set_option linter.unusedSimpArgs false

/-- The runs that begin below k. -/
def cnt (W : Nat → Nat) (k : Nat) : Nat := (List.range k).countP (begins W)
theorem cnt_zero (W : Nat → Nat) : cnt W 0 = 0 := by simp [cnt]
theorem cnt_succ (W : Nat → Nat) (k : Nat) : cnt W (k + 1) = cnt W k + if begins W k then 1 else 0 := by
  unfold cnt
  rw [List.range_succ, List.countP_append]
  simp [List.countP_singleton]
theorem cnt_all (W : Nat → Nat) (hW : ∀ j, W j < 18446744073709551616) (k : Nat) (hk : k = 64 * 1024) : runs W 1024 = cnt W k := by
  rw [hk]; exact runs_eq W hW 1024
theorem below_65536 {k : Nat} (h : (k : Int) < 65536) : k < 65536 := by omega

set_option maxRecDepth 100000 in
set_option maxHeartbeats 2000000 in
theorem walk (xa : Option Addr) (xb xo n cap : Nat) (X : Nat → Nat) (st : Nat) (hst : st < 65536) (w : World)
    (hxa : 0 < n → xa = some ⟨xb, xo, none⟩ ∧ xb < w.heap.size) (hX : ∀ j, j < n → w.cell? ⟨xb, xo + j, none⟩ = some (.int .u64 (X j)) ∧ X j < 18446744073709551616) :
    Calls Yba.prog 3 #[.slice xa n cap, .int .u16 st] w fun e w' => e = .returned (.bool true) ∧ Below w.heap.size w w' := by
  by_cases hbig : (4096 : Int) < n
  · go_enter Yba.func3, Yba.ntmps3
    go_wp2
    go_ret
    exact ⟨rfl, Below.refl _ _⟩
  obtain ⟨i28, h28, z280, z281, z282⟩ := info_parts info28
  go_enter Yba.func3, Yba.ntmps3
  go_upto_block 0 with (refine wpList_alloc_big rfl 28 rfl i28 Z28 h28 z280 ?_; intro w1 Hb1 hbel1)
  have Hst : Hid (w1.heap[w.heap.size]? = some (.cells (bmap (fun _ => 0) 0) 28 (0, 0)) ∧ Below w.heap.size w w1) := ⟨by rw [← z28_cells]; exact Hb1.out, hbel1⟩
  clear Hb1 hbel1
  go_cut [] (fun wx => ∃ W, (∀ j, W j < 18446744073709551616) ∧ wx.heap[w.heap.size]? = some (.cells (bmap W 0) 28 (0, 0)) ∧ Below w.heap.size w wx)
  case first =>
    go_wp2
    go_loopw [7] (fun i wr => ∃ (k : Nat) (W : Nat → Nat), k ≤ n ∧ k ≤ 1024 ∧ i = .int .i64 k ∧ (∀ j, W j < 18446744073709551616) ∧ wr.heap[w.heap.size]? = some (.cells (bmap W 0) 28 (0, 0)) ∧ Below w.heap.size w wr) (fun i _ => n - (intOf i).toNat)
    case atStart => exact ⟨0, fun _ => 0, by omega, by omega, rfl, fun _ => Nat.zero_lt_succ _, Hst.out.1, Hst.out.2⟩
    case round =>
      clear Hst
      obtain ⟨k, W, hk, hk2, rfl, hW, hb, hbel⟩ := hrel
      have HW : Hid (∀ j, W j < 18446744073709551616) := hW
      have HB : Hid (wr.heap[w.heap.size]? = some (.cells (bmap W 0) 28 (0, 0))) := hb
      clear hW
      by_cases hlt : k < n
      · by_cases hlt2 : k < 1024
        · obtain ⟨rfl, hxb⟩ := hxa (by omega)
          have xc : wr.cell? ⟨xb, xo + k, none⟩ = some (.int .u64 (X k)) := (hbel.cell (p := ⟨xb, xo + k, none⟩) hxb).trans (hX k hlt).1
          have hidx : (st + k) % 1024 < 1024 := Nat.mod_lt _ (by decide)
          have b0 : wr.cell? ⟨w.heap.size, (st + k) % 1024, none⟩ = some (.int .u64 (W ((st + k) % 1024))) := by rw [cell_of_row _ _ _ _ _ _ hb, bmap_at _ _ _ hidx]
          have f0 : wr.frozen? ⟨w.heap.size, (st + k) % 1024, none⟩ = false := frozen_of_row _ _ _ _ _ hb
          have hXk := (hX k hlt).2
          clear hb hX
          have l1 : (k : Int) < (n : Int) := by omega
          go_wp2
          go_region
          go_wp2
          go_roundw
          case rel =>
            refine ⟨k + 1, put W ((st + k) % 1024) (X k), by omega, by omega, by go_num, fun j => ?_, ?_, (hbel.setCell (Nat.le_refl _) _).drew⟩
            · unfold put
              split
              · exact hXk
              · exact HW.out j
            · rw [← bmap_set _ _ _ _ hidx]
              exact block_set HB.out
          case measure => simp [intOf]; omega
        · have hd : decide ((k : Int) < 1024) = false := decide_eq_false (by omega)
          go_wp2
          go_meet
          case rel => exact ⟨W, HW.out, HB.out, hbel⟩
      · have hd : decide ((k : Int) < (n : Int)) = false := decide_eq_false (by omega)
        go_wp2
        go_meet
        case rel => exact ⟨W, HW.out, HB.out, hbel⟩
  case rest =>
    obtain ⟨W, hW, hb, hbel⟩ := hcut
    clear Hst hX
    have HW : Hid (∀ j, W j < 18446744073709551616) := hW
    have Hrc : Hid (Calls Yba.prog 7 #[.pointer (some ⟨w.heap.size, 0, none⟩)] wc fun e w' => e = .returned (.tuple #[]) ∧ wc.grownBy w' (some w.heap.size) ∧ ∃ c', w'.heap[w.heap.size]? = some (.cells (bmap W c') 28 (0, 0))) := recount w.heap.size W 0 wc hW hb
    clear hb hW
    go_wp2_with fail
    refine Hrc.out.mono ?_
    rintro e w2 ⟨rfl, hg2, c2, hb2⟩
    have hbel2 : Below w.heap.size w w2 := hbel.grown hg2 hbel.size (fun q hq => by simp at hq; omega)
    have Hbit : Hid (∀ (u : Nat) (x : Int), u < 65536 → x = u → Calls Yba.prog 8 #[.pointer (some ⟨w.heap.size, 0, none⟩), .int .i64 x] w2 fun e w' => e = .returned (.bool (bit W u)) ∧ w2 = w') := by
      rintro u x hu rfl
      exact (bitOf w.heap.size W c2 u hu w2 HW.out hb2).mono fun _ _ h => ⟨h.1, h.2.symm⟩
    have Hrun : Hid (Calls Yba.prog 9 #[.pointer (some ⟨w.heap.size, 0, none⟩)] w2 fun e w' => e = .returned (.int .i64 (runs W 1024)) ∧ w2 = w') := (runCount w.heap.size W c2 w2 HW.out hb2).mono fun _ _ h => ⟨h.1, h.2.symm⟩
    have Hruns : Hid (∀ k, k = 64 * 1024 → runs W 1024 = cnt W k) := fun k hk => cnt_all W HW.out k hk
    clear hb2 hg2 hbel Hrc
    go_wp2
    go_loop [8, 9] (fun q v => ∃ k m : Nat, (k : Int) ≤ 65536 ∧ v = .int .i64 k ∧ m ≤ k ∧ q = .int .i64 m ∧ Hid (m = cnt W k)) (fun _ v => (65536 - intOf v).toNat)
    case atStart => exact ⟨0, 0, by omega, rfl, by omega, rfl, (cnt_zero W).symm⟩
    case round =>
      obtain ⟨k, m, hk, rfl, hmk, rfl, Hm⟩ := hrel
      by_cases hlt : (k : Int) < 65536
      · have Hs : Hid (cnt W (k + 1) = m + if begins W k then 1 else 0) := by
          show _ = _
          rw [cnt_succ, ← Hm.out]
        have Hk := Hbit.out k k (below_65536 hlt) rfl
        cases hbk : bit W k with
        | false =>
          have Hbg : Hid (begins W k = false) := by show _ = _; unfold begins; rw [hbk]; rfl
          rw [hbk] at Hk
          have HK : Hid (Calls Yba.prog 8 #[.pointer (some ⟨w.heap.size, 0, none⟩), .int .i64 (k : Int)] w2 fun e w' => e = .returned (.bool false) ∧ w2 = w') := Hk
          clear Hk hbk
          go_wp2_with fail
          refine HK.out.mono ?_
          rintro e w' ⟨rfl, rfl⟩
          go_wp2
          go_round
          case rel => exact ⟨k + 1, m, by omega, by go_num, by omega, rfl, by show m = _; rw [Hs.out, Hbg.out]; simp⟩
          case measure => simp [intOf]; omega
        | true =>
          rw [hbk] at Hk
          have HK : Hid (Calls Yba.prog 8 #[.pointer (some ⟨w.heap.size, 0, none⟩), .int .i64 (k : Int)] w2 fun e w' => e = .returned (.bool true) ∧ w2 = w') := Hk
          clear Hk
          by_cases hk0 : k = 0
          · have Hbg : Hid (begins W k = true) := by show _ = _; unfold begins; rw [hbk, hk0]; rfl
            have e0 : ((k : Int) == 0) = true := beq_iff_eq.2 (by omega)
            clear hbk hk0
            go_wp2_with fail
            refine HK.out.mono ?_
            rintro e w' ⟨rfl, rfl⟩
            go_wp2
            go_round
            case rel => exact ⟨k + 1, m + 1, by omega, by go_num, by omega, by go_num, by show m + 1 = _; rw [Hs.out, Hbg.out]; simp⟩
            case measure => simp [intOf]; omega
          · obtain ⟨u, hu⟩ : ∃ u, k = u + 1 := ⟨k - 1, by omega⟩
            have e0 : ((k : Int) == 0) = false := beq_eq_false_iff_ne.2 (by omega)
            have Hu := fun (x : Int) (hx : x = u) => Hbit.out u x (by omega) hx
            have hku : k - 1 = u := by omega
            have HKU : Hid (k = u + 1) := hu
            clear hu
            cases hbu : bit W u with
            | true =>
              have Hbg : Hid (begins W k = false) := by show _ = _; unfold begins; rw [hbk, hku, hbu]; simp; omega
              rw [hbu] at Hu
              have HU : Hid (∀ x : Int, x = u → Calls Yba.prog 8 #[.pointer (some ⟨w.heap.size, 0, none⟩), .int .i64 x] w2 fun e w' => e = .returned (.bool true) ∧ w2 = w') := Hu
              clear Hu hbu hbk hku
              go_wp2_with fail
              refine HK.out.mono ?_
              rintro e w' ⟨rfl, rfl⟩
              go_wp2_with fail
              refine (HU.out _ (by have := HKU.out; omega)).mono ?_
              rintro e w' ⟨rfl, rfl⟩
              go_wp2
              go_round
              case rel => exact ⟨k + 1, m, by omega, by go_num, by omega, rfl, by show m = _; rw [Hs.out, Hbg.out]; simp⟩
              case measure => simp [intOf]; omega
            | false =>
              have Hbg : Hid (begins W k = true) := by show _ = _; unfold begins; rw [hbk, hku, hbu]; simp
              rw [hbu] at Hu
              have HU : Hid (∀ x : Int, x = u → Calls Yba.prog 8 #[.pointer (some ⟨w.heap.size, 0, none⟩), .int .i64 x] w2 fun e w' => e = .returned (.bool false) ∧ w2 = w') := Hu
              clear Hu hbu hbk hku
              go_wp2_with fail
              refine HK.out.mono ?_
              rintro e w' ⟨rfl, rfl⟩
              go_wp2_with fail
              refine (HU.out _ (by have := HKU.out; omega)).mono ?_
              rintro e w' ⟨rfl, rfl⟩
              go_wp2
              go_round
              case rel => exact ⟨k + 1, m + 1, by omega, by go_num, by omega, by go_num, by show m + 1 = _; rw [Hs.out, Hbg.out]; simp⟩
              case measure => simp [intOf]; omega
      · have hrm : runs W 1024 = m := by rw [Hruns.out k (by omega), Hm.out]
        have eq : ((runs W 1024 : Int) == (m : Int)) = true := beq_iff_eq.2 (by omega)
        clear hrm
        go_wp2_with fail
        refine Hrun.out.mono ?_
        rintro e w' ⟨rfl, rfl⟩
        go_wp2
        go_ret
        exact ⟨rfl, hbel2⟩
end Go.Proofs.Ybulkabsy.Count
