import Derived.Test.YbulkabsyRowk
import Derived.Test.YbulkabsySrcu
namespace Go.Proofs.Ybulkabsy.Uf
open Go.RowKit Go.Proofs.Ybulkabsy.Srch Go.Proofs.Ybulkabsy.Rowk
set_option linter.unusedVariables false
set_option linter.unusedSimpArgs false

/-- The ladder: the sum so far, at most 65535. -/
def lad (a : Int) (D : Nat → Nat) : Nat → Int
  | 0 => a
  | k + 1 => if lad a D k + ((D k % 4 : Nat) : Int) ≤ 65535 then lad a D k + ((D k % 4 : Nat) : Int) else 65535
theorem lad_top (a : Int) (D : Nat → Nat) (h : a ≤ 65535) (x : Nat) : lad a D x ≤ 65535 := by
  cases x with
  | zero => exact h
  | succ y => simp only [lad]; split <;> omega
theorem lad_mono (a : Int) (D : Nat → Nat) (h0 : a ≤ 65535) (x y : Nat) (h : x ≤ y) : lad a D x ≤ lad a D y := by
  induction y with
  | zero => obtain rfl : x = 0 := by omega
            exact Int.le_refl _
  | succ y ih =>
    rcases Nat.lt_or_ge x (y + 1) with h1 | h1
    · have := ih (by omega)
      have := lad_top a D h0 y
      simp only [lad]
      split <;> omega
    · obtain rfl : x = y + 1 := by omega
      exact Int.le_refl _
theorem lad_ge (a : Int) (D : Nat → Nat) (h0 : a ≤ 65535) (x : Nat) : a ≤ lad a D x := lad_mono a D h0 0 x (Nat.zero_le _)

set_option maxRecDepth 100000 in
set_option maxHeartbeats 1000000 in
theorem walk (a0 : Int) (xa : Option Addr) (xb xo n cap : Nat) (D : Nat → Nat) (ui : Nat) (v : Int) (w : World) (ha : 0 ≤ a0) (ha' : a0 ≤ 65535) (hui : ui < 65536) (hv : 0 ≤ v) (hv' : v ≤ 65535)
    (hxa : 0 < n → xa = some ⟨xb, xo, none⟩ ∧ xb < w.heap.size) (hX : ∀ j, j < n → w.cell? ⟨xb, xo + j, none⟩ = some (.int .u8 (D j)) ∧ D j < 256) :
    Calls Yba.prog 6 #[.int .u16 a0, .slice xa n cap, .int .u16 ui, .int .u16 v] w fun e w' => e = .returned (.bool true) ∧ Below w.heap.size w w' := by
  by_cases hbig : (1024 : Int) < n
  · go_enter Yba.func6, Yba.ntmps6
    go_wp2
    go_ret
    exact ⟨rfl, Below.refl _ _⟩
  obtain ⟨i3, h3, z30, z31, z32⟩ := info_parts info23
  go_enter Yba.func6, Yba.ntmps6
  go_upto_region 5 with (at_make; go_must (refine wpList_make_full _ rfl (.tmp 22) (.tmp 22) 32 rfl w.heap.size 23 i3 (.int .u16 0) 1 Yba.underlying32 h3 z30 z31 .i64 .i64 n n n rfl rfl rfl rfl (by rw [z32]; omega) (by unfold maxLen; omega) (Nat.le_refl _) ?_); intro w1 hown1 hgrow1)
  have hm := made_nums (fun j => lad a0 D (j + 1)) hown1
  have hbel1 : Below w.heap.size w w1 := (Below.refl _ _).grown hgrow1 (Nat.le_refl _) (fun k hk => by cases hk)
  have Hm : Hid (w1.heap[w.heap.size]? = some (.cells (nums .u16 (upto (fun j => lad a0 D (j + 1)) 0) n) 23 (0, 0))) := hm
  clear hm hown1 hgrow1 h3 z30 z31 z32
  go_upto_block 0 with fail
  go_cut [11, 12] (fun _ _ wx => wx.heap[w.heap.size]? = some (.cells (nums .u16 (upto (fun j => lad a0 D (j + 1)) n) n) 23 (0, 0)) ∧ Below w.heap.size w wx)
  case first =>
    go_wp2
    go_loopw [11, 12] (fun c i wr => ∃ (k : Nat), k ≤ n ∧ i = .int .i64 k ∧ c = .int .u32 (lad a0 D k) ∧ wr.heap[w.heap.size]? = some (.cells (nums .u16 (upto (fun j => lad a0 D (j + 1)) k) n) 23 (0, 0)) ∧ Below w.heap.size w wr) (fun _ i _ => n - (intOf i).toNat)
    case atStart => exact ⟨0, by omega, rfl, rfl, Hm.out, hbel1⟩
    case round =>
      clear Hm hbel1
      obtain ⟨k, hk, rfl, rfl, hb, hbel⟩ := hrel
      by_cases hlt : k < n
      · obtain ⟨rfl, hxb⟩ := hxa (by omega)
        have xc : wr.cell? ⟨xb, xo + k, none⟩ = some (.int .u8 (D k)) := (hbel.cell (p := ⟨xb, xo + k, none⟩) hxb).trans (hX k hlt).1
        have hD := (hX k hlt).2
        have b0 : wr.cell? ⟨w.heap.size, k, none⟩ = some (.int .u16 (upto (fun j => lad a0 D (j + 1)) k k)) := by rw [cell_of_row _ _ _ _ _ _ hb, nums_at _ _ _ _ hlt]
        have f0 : wr.frozen? ⟨w.heap.size, k, none⟩ = false := frozen_of_row _ _ _ _ _ hb
        have HB : Hid (wr.heap[w.heap.size]? = some (.cells (nums .u16 (upto (fun j => lad a0 D (j + 1)) k) n) 23 (0, 0))) := hb
        have l1 := lad_top a0 D ha' k
        have l2 := lad_ge a0 D ha' k
        clear hb hX
        by_cases hs : lad a0 D k + ((D k % 4 : Nat) : Int) ≤ 65535
        · have hl : lad a0 D (k + 1) = lad a0 D k + ((D k % 4 : Nat) : Int) := by simp only [lad]; rw [if_pos hs]
          have HL : Hid (lad a0 D (k + 1) = lad a0 D k + ((D k % 4 : Nat) : Int)) := hl
          clear hl
          go_wp2
          go_roundw
          case rel =>
            refine ⟨k + 1, by omega, by go_num, by rw [HL.out]; simp, ?_, hbel.setCell (Nat.le_refl _) _⟩
            rw [← nums_set _ _ _ _ hlt _ HL.out.symm]
            exact block_set HB.out
          case measure => simp [intOf]; omega
        · have hl : lad a0 D (k + 1) = 65535 := by simp only [lad]; rw [if_neg hs]
          have HL : Hid (lad a0 D (k + 1) = 65535) := hl
          clear hl
          go_wp2
          go_roundw
          case rel =>
            refine ⟨k + 1, by omega, by go_num, by rw [HL.out], ?_, hbel.setCell (Nat.le_refl _) _⟩
            rw [← nums_set _ _ _ _ hlt _ HL.out.symm]
            exact block_set HB.out
          case measure => simp [intOf]; omega
      · obtain rfl : k = n := by omega
        have HB : Hid (wr.heap[w.heap.size]? = some (.cells (nums .u16 (upto (fun j => lad a0 D (j + 1)) k) k) 23 (0, 0)) ∧ Below w.heap.size w wr) := ⟨hb, hbel⟩
        clear hb hX hbel
        go_wp2
        go_meet
        case rel => exact HB.out
  case rest =>
    obtain ⟨hb, hbel⟩ := hcut
    have hcells := row_cells hb
    have HC : Hid (∀ i, i < n → wc.cell? ⟨w.heap.size, 0 + i, none⟩ = some (.int .u16 (lad a0 D (i + 1)))) := hcells
    have HM : Hid (∀ x y, x ≤ y → y < n → lad a0 D (x + 1) ≤ lad a0 D (y + 1)) := fun x y h _ => lad_mono a0 D ha' _ _ (by omega)
    have HBel : Hid (Below w.heap.size w wc) := hbel
    clear hb hcells hbel hX hxa Hm hbel1
    have hi : ui % (n + 1) ≤ n := by have := Nat.mod_lt ui (show n + 1 > 0 by omega); omega
    obtain ⟨i, hie⟩ : ∃ i, i = ui % (n + 1) := ⟨_, rfl⟩
    have hrem : ((ui : Int)) % ((n : Int) + 1) = (i : Int) := by rw [hie]; simp
    rw [← hie] at hi
    go_upto_region 14 with fail
    rw [hrem]
    clear hrem hie
    go_upto_region 15 with (go_at_call 15; go_must (refine (gallop15 w.heap.size 0 n n i (fun j => lad a0 D (j + 1)) v _ hi (by omega) (Nat.le_refl _) (by omega) HM HC).mono ?_); rintro e w' ⟨rfl, p, rfl, hp⟩)
    have HP : Hid (IsFirst (fun j => lad a0 D (j + 1)) n i v p) := hp
    clear hp HM
    go_wp2
    go_loopw [15, 16] (fun c x wr => ∃ (k : Nat), i ≤ k ∧ k ≤ n ∧ x = .int .i64 k ∧ c = .int .i64 n ∧ (∀ x, i ≤ x → x < k → lad a0 D (x + 1) < v) ∧ wr = w') (fun _ x _ => n - (intOf x).toNat)
    case atStart => exact ⟨i, Nat.le_refl _, hi, rfl, rfl, fun x h h' => by omega, rfl⟩
    case round =>
      obtain ⟨k, hik, hk, rfl, rfl, hless, rfl⟩ := hrel
      have HL : Hid (∀ x, i ≤ x → x < k → lad a0 D (x + 1) < v) := hless
      clear hless
      by_cases hlt : k < n
      · have c0 := HC.out k hlt
        rw [Nat.zero_add] at c0
        by_cases hz : v ≤ lad a0 D (k + 1)
        · have hpk : p = k := HP.out.eq ⟨hik, hk, HL.out, fun _ => hz⟩
          subst hpk
          have e1 : ((p : Int) == (p : Int)) = true := by simp
          go_wp2
          go_ret
          exact ⟨rfl, HBel.out⟩
        · go_wp2
          go_roundw
          case rel =>
            refine ⟨k + 1, by omega, by omega, by go_num, rfl, fun x h h' => ?_, trivial⟩
            rcases Nat.lt_or_ge x k with h1 | h1
            · exact HL.out x h h1
            · obtain rfl : x = k := by omega
              omega
          case measure => simp [intOf]; omega
      · obtain rfl : k = n := by omega
        have hpk : p = k := HP.out.eq ⟨hik, hk, HL.out, fun h => absurd h hlt⟩
        subst hpk
        have e1 : ((p : Int) == (p : Int)) = true := by simp
        go_wp2
        go_ret
        exact ⟨rfl, HBel.out⟩
end Go.Proofs.Ybulkabsy.Uf
