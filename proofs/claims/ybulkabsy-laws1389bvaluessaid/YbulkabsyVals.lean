import Derived.Test.YbulkabsySoz
import Derived.Test.YbulkabsyBset
import Derived.Test.YbulkabsyVal0
namespace Go.Proofs.Ybulkabsy.Vals
open Go.RowKit Go.Proofs.Ybulkabsy.Runs Go.Proofs.Ybulkabsy.Map Go.Proofs.Ybulkabsy.Count Go.Proofs.Ybulkabsy.Bset Go.Proofs.Ybulkabsy.Val0
set_option linter.unusedVariables false
set_option linter.unusedSimpArgs false

/-- The bitmap at bb holds just the first k values. -/
def Has (w : World) (bb : Nat) (X : Nat → Nat) (k : Nat) : Prop :=
  ∃ (W : Nat → Nat) (c : Nat), c ≤ k ∧ (∀ j, W j < 18446744073709551616) ∧ (∀ v, bit W v = true ↔ ∃ j, j < k ∧ X j = v) ∧ w.heap[bb]? = some (.cells (bmap W c) 28 (0, 0))
theorem has_zero {w : World} {bb : Nat} (X : Nat → Nat) (h : w.heap[bb]? = some (.cells (bmap (fun _ => 0) 0) 28 (0, 0))) : Has w bb X 0 :=
  ⟨fun _ => 0, 0, Nat.le_refl _, fun _ => Nat.zero_lt_succ _, fun v => by simp [bit], h⟩

theorem has_next {w' : World} {bb : Nat} {X : Nat → Nat} {k : Nat} {W W' : Nat → Nat} {c c' : Nat} (hc : c ≤ k) (hc' : c' ≤ c + 1) (hW' : ∀ j, W' j < 18446744073709551616) (hm : ∀ v, bit W v = true ↔ ∃ j, j < k ∧ X j = v) (hb : ∀ x, bit W' x = (bit W x || x == X k)) (h : w'.heap[bb]? = some (.cells (bmap W' c') 28 (0, 0))) : Has w' bb X (k + 1) := by
  refine ⟨W', c', by omega, hW', fun v => ?_, h⟩
  rw [hb, Bool.or_eq_true, hm, beq_iff_eq]
  constructor
  · rintro (⟨j, hj, rfl⟩ | rfl)
    · exact ⟨j, by omega, rfl⟩
    · exact ⟨k, by omega, rfl⟩
  · rintro ⟨j, hj, rfl⟩
    rcases Nat.lt_or_ge j k with e | e
    · exact .inl ⟨j, e, rfl⟩
    · obtain rfl : j = k := by omega
      exact .inr rfl

/-- The values as an array. -/
def arr (X : Nat → Nat) (n : Nat) : Array Int := ((List.range n).map fun j => ((X j : Nat) : Int)).toArray
theorem arr_size (X : Nat → Nat) (n : Nat) : (arr X n).size = n := by simp [arr]
theorem arr_get (X : Nat → Nat) (n j : Nat) (h : j < n) : (arr X n)[j]! = (X j : Int) := by
  rw [getElem!_pos (arr X n) j (by rw [arr_size]; exact h)]
  simp [arr]
theorem has_below {w0 w1 w2 : World} {bb : Nat} {X : Nat → Nat} {k : Nat} (h : Has w1 bb X k) (e : w2.heap[bb]? = w1.heap[bb]?) : Has w2 bb X k := by
  obtain ⟨W, c, h1, h2, h3, h4⟩ := h
  exact ⟨W, c, h1, h2, h3, by rw [e]; exact h4⟩
theorem has_lt {w : World} {bb : Nat} {X : Nat → Nat} {k : Nat} (h : Has w bb X k) : bb < w.heap.size := by
  obtain ⟨W, c, h1, h2, h3, h4⟩ := h
  exact lt_of_block h4

/-- What stands once the values are sorted and compacted. -/
def Ready (w wx : World) (sa : Option Addr) (m : Nat) : Prop :=
  ∃ (W : Nat → Nat) (c : Nat) (S : Nat → Nat) (blk : Nat), (0 < m → sa = some ⟨blk, 0, none⟩) ∧ (∀ i, i < m → wx.cell? ⟨blk, 0 + i, none⟩ = some (.int .u16 (S i)) ∧ (S i : Int) < 65536) ∧ m ≤ 4096 ∧ (∀ j, W j < 18446744073709551616) ∧ Asc W S m ∧ wx.heap[w.heap.size]? = some (.cells (bmap W c) 28 (0, 0)) ∧ Below w.heap.size w wx
theorem perm_mem {n : Nat} {d ds : Array Int} (hd : d.size = n) (h : Go.Sort.PermIn 0 n d ds) (x : Int) : (∃ j, j < n ∧ ds[j]! = x) ↔ ∃ j, j < n ∧ d[j]! = x := by
  have h1 := Go.Sort.extract_toList d 0 n (by omega)
  have h2 := Go.Sort.extract_toList ds 0 n (by rw [h.1]; omega)
  have hp := h.2.2
  rw [h1, h2] at hp
  have := hp.mem_iff (a := x)
  simp only [Nat.sub_zero, List.mem_map, List.mem_range'_1, Nat.zero_le, true_and, Nat.zero_add] at this
  exact this
theorem ready_of {w wx : World} {X : Nat → Nat} {n blk : Nat} {ds d' : Array Int} (hX : ∀ j, j < n → (X j : Int) < 65536) (hn : n ≤ 4096) (hp : Go.Sort.PermIn 0 n (arr X n) ds) (hs : Go.Sort.SortedIn Go.Sort.ltInt 0 n ds)
    (hH : Go.Sort.Holds (Value.int .u16) wx blk 0 d') (hd' : d'.size = n) (he : ∀ j, j < (Lib.compactUpTo ds n).length → d'[j]! = (Lib.compactUpTo ds n)[j]!) (hhas : Has wx w.heap.size X n) (hbel : Below w.heap.size w wx) : Ready w wx (some ⟨blk, 0, none⟩) (Lib.compactUpTo ds n).length := by
  obtain ⟨W, c, hc, hW, hm, hb⟩ := hhas
  have hle := So.compact_len ds n
  obtain ⟨ha, hmem⟩ := compact_sorted ds n (fun i j h1 h2 => by have := hs i j (Nat.zero_le _) h1 h2; simpa [Go.Sort.ltInt] using this) n (Nat.le_refl _)
  have hin : ∀ i, i < (Lib.compactUpTo ds n).length → ∃ j, j < n ∧ ((X j : Nat) : Int) = (Lib.compactUpTo ds n)[i]! := by
    intro i hi
    have h1 : (Lib.compactUpTo ds n)[i]! ∈ Lib.compactUpTo ds n := by
      rw [getElem!_pos (Lib.compactUpTo ds n) i hi]
      exact List.getElem_mem _
    obtain ⟨j, hj, hje⟩ := (perm_mem (arr_size X n) hp _).1 ((hmem _).1 h1)
    exact ⟨j, hj, by rw [← hje, arr_get X n j hj]⟩
  have hS : ∀ i, i < (Lib.compactUpTo ds n).length → (((Lib.compactUpTo ds n)[i]!.toNat : Nat) : Int) = (Lib.compactUpTo ds n)[i]! := by
    intro i hi
    obtain ⟨j, _, hj⟩ := hin i hi
    omega
  refine ⟨W, c, fun i => (Lib.compactUpTo ds n)[i]!.toNat, blk, fun _ => rfl, fun i hi => ⟨?_, ?_⟩, by omega, hW, ⟨?_, ?_⟩, hb, hbel⟩
  · rw [hS i hi, ← he i hi]
    exact (hH i (by omega)).1
  · rw [hS i hi]
    obtain ⟨j, h1, hj⟩ := hin i hi
    rw [← hj]
    exact hX j h1
  · intro i j hij hj
    have h1 := List.pairwise_iff_getElem.1 ha i j (by omega) hj hij
    have e1 := hS i (by omega)
    have e2 := hS j hj
    rw [getElem!_pos (Lib.compactUpTo ds n) i (by omega)] at e1
    rw [getElem!_pos (Lib.compactUpTo ds n) j hj] at e2
    show (Lib.compactUpTo ds n)[i]!.toNat < (Lib.compactUpTo ds n)[j]!.toNat
    rw [getElem!_pos (Lib.compactUpTo ds n) i (by omega), getElem!_pos (Lib.compactUpTo ds n) j hj]
    omega
  · intro v
    rw [hm]
    constructor
    · rintro ⟨j, hj, rfl⟩
      have h1 : ((X j : Nat) : Int) ∈ Lib.compactUpTo ds n := (hmem _).2 ((perm_mem (arr_size X n) hp _).2 ⟨j, hj, arr_get X n j hj⟩)
      obtain ⟨i, hi, hie⟩ := List.mem_iff_getElem.1 h1
      refine ⟨i, hi, ?_⟩
      show (Lib.compactUpTo ds n)[i]!.toNat = X j
      rw [getElem!_pos (Lib.compactUpTo ds n) i hi, hie]
      simp
    · rintro ⟨i, hi, rfl⟩
      obtain ⟨j, hj, hje⟩ := hin i hi
      refine ⟨j, hj, ?_⟩
      show X j = (Lib.compactUpTo ds n)[i]!.toNat
      rw [← hje]
      simp
theorem ready_zero {w wx : World} {X : Nat → Nat} (sa : Option Addr) (hhas : Has wx w.heap.size X 0) (hbel : Below w.heap.size w wx) : Ready w wx sa 0 := by
  obtain ⟨W, c, hc, hW, hm, hb⟩ := hhas
  exact ⟨W, c, fun _ => 0, 0, fun h => absurd h (by omega), fun i hi => absurd hi (by omega), by omega, hW, ⟨fun i j _ h => absurd h (by omega), fun v => by rw [hm]; simp⟩, hb, hbel⟩

set_option maxRecDepth 100000 in
set_option maxHeartbeats 4000000 in
theorem walk (xa : Option Addr) (xb xo n cap : Nat) (X : Nat → Nat) (w : World)
    (hxa : 0 < n → xa = some ⟨xb, xo, none⟩ ∧ xb < w.heap.size) (hX : ∀ j, j < n → w.cell? ⟨xb, xo + j, none⟩ = some (.int .u16 (X j)) ∧ (X j : Int) < 65536) :
    Calls Yba.prog 4 #[.slice xa n cap] w fun e w' => e = .returned (.bool true) ∧ Below w.heap.size w w' := by
  by_cases hbig : (4096 : Int) < n
  · go_enter Yba.func4, Yba.ntmps4
    go_wp2
    go_ret
    exact ⟨rfl, Below.refl _ _⟩
  obtain ⟨i28, h28, z280, z281, z282⟩ := info_parts info28
  go_enter Yba.func4, Yba.ntmps4
  go_upto_block 0 with (refine wpList_alloc_big rfl 28 rfl i28 Z28 h28 z280 ?_; intro w1 Hb1 hbel1)
  have Hst : Hid (Has w1 w.heap.size X 0 ∧ Below w.heap.size w w1) := ⟨has_zero X (by rw [← z28_cells]; exact Hb1.out), hbel1⟩
  clear Hb1 hbel1
  go_cut [5, 16] (fun _ _ wx => Has wx w.heap.size X n ∧ Below w.heap.size w wx)
  case first =>
    go_wp2
    go_loopg [5, 16] n (fun gk _ i wr => ∃ k : Nat, i = .int .i64 k ∧ k + gk = n ∧ Has wr w.heap.size X k ∧ Below w.heap.size w wr)
    case atStart => exact ⟨0, rfl, by omega, Hst.out.1, Hst.out.2⟩
    case round =>
      clear Hst
      obtain ⟨k, rfl, hk, ⟨W, c, hc, hW, hm, hb⟩, hbel⟩ := hrel
      by_cases hlt : k < n
      · obtain ⟨rfl, hxb⟩ := hxa (by omega)
        have xc : wr.cell? ⟨xb, xo + k, none⟩ = some (.int .u16 (X k)) := (hbel.cell (p := ⟨xb, xo + k, none⟩) hxb).trans (hX k hlt).1
        have hXk := (hX k hlt).2
        have HW : Hid (∀ j, W j < 18446744073709551616) := hW
        have HM : Hid (∀ v, bit W v = true ↔ ∃ j, j < k ∧ X j = v) := hm
        have HB : Hid (wr.heap[w.heap.size]? = some (.cells (bmap W c) 28 (0, 0))) := hb
        have HBel : Hid (Below w.heap.size w wr) := hbel
        clear hW hm hb hbel hX
        have l1 : (k : Int) < n := by omega
        go_wp2_with (go_at_call 10; go_must (refine (set10 w.heap.size W c (X k) hXk (by omega) _ HW.out HB.out).mono ?_); rintro e w2 ⟨rfl, hgr, W', c', hc', hW', hbit, hb'⟩)
        go_roundg (gk - 1)
        case measure => omega
        case rel => exact ⟨k + 1, by go_num, by omega, has_next hc hc' hW' HM.out hbit hb', HBel.out.grown hgr HBel.out.size (by intro q hq; cases hq; exact Nat.le_refl _)⟩
      · obtain rfl : k = n := by omega
        have HH : Hid (Has wr w.heap.size X k ∧ Below w.heap.size w wr) := ⟨⟨W, c, hc, hW, hm, hb⟩, hbel⟩
        clear hW hm hb hbel hX
        go_wp2
        go_meet
        case rel => exact HH.out
  case rest =>
    obtain ⟨hhas, hbel⟩ := hcut
    have HH : Hid (Has wc w.heap.size X n) := hhas
    have HBel : Hid (Below w.heap.size w wc) := hbel
    clear hhas hbel Hst
    go_upto_region 9 with fail
    go_cut [6] (fun y wx => ∃ (sa : Option Addr) (c' : Nat), y = .slice sa n c' ∧ (0 < n → ∃ blk, sa = some ⟨blk, 0, none⟩ ∧ n ≤ c' ∧ w.heap.size < blk ∧ Go.Sort.Holds (Value.int .u16) wx blk 0 (arr X n)) ∧ Has wx w.heap.size X n ∧ Below w.heap.size w wx)
    case first =>
      rcases Nat.eq_zero_or_pos n with hn0 | hn0
      · subst hn0
        cases xa with
        | none =>
          go_wp2_with (go_at_call 11; go_must (refine (So.clone0 cap _).mono ?_); rintro e w2 ⟨rfl, rfl⟩)
          go_meet
          case rel => exact ⟨none, 0, rfl, fun h => absurd h (by omega), HH.out, HBel.out⟩
        | some xad =>
          go_wp2_with (go_at_call 11; go_must (refine (So.cloneZ xad cap _).mono ?_); rintro e w2 ⟨b, c', rfl, hb2⟩)
          go_meet
          case rel => exact ⟨b, c', rfl, fun h => absurd h (by omega), has_below (w0 := w) HH.out (hb2.block _ (has_lt HH.out)), HBel.out.trans (hb2.mono HBel.out.size)⟩
      · obtain ⟨rfl, hxb⟩ := hxa hn0
        have HXC : Hid (∀ j, j < n → wc.cell? ⟨xb, xo + j, none⟩ = some (.int .u16 (arr X n)[j]!)) := fun j hj => by
          rw [arr_get X n j hj]
          exact (HBel.out.cell (p := ⟨xb, xo + j, none⟩) hxb).trans (hX j hj).1
        clear hX
        go_wp2_with (go_at_call 11; go_must (refine (So.clone11 xb xo n cap (arr X n) _ (arr_size X n) (by omega) HXC.out).mono ?_); rintro e w2 ⟨blk, c', rfl, hc', hblk, hH, hb2⟩)
        go_meet
        case rel =>
          have hlt := has_lt HH.out
          exact ⟨_, c', rfl, fun _ => ⟨blk, rfl, hc', by omega, hH⟩, has_below (w0 := w) HH.out (hb2.block _ hlt), HBel.out.trans (hb2.mono HBel.out.size)⟩
    case rest =>
      have HXB : Hid (∀ j, j < n → (X j : Int) < 65536) := fun j hj => (hX j hj).2
      clear HH HBel hX hxa
      obtain ⟨sa, c', rfl, hcl, hhas, hbel⟩ := hcut
      have HH : Hid (Has wc w.heap.size X n) := hhas
      have HBel : Hid (Below w.heap.size w wc) := hbel
      have HC : Hid (0 < n → ∃ blk, sa = some ⟨blk, 0, none⟩ ∧ n ≤ c' ∧ w.heap.size < blk ∧ Go.Sort.Holds (Value.int .u16) wc blk 0 (arr X n)) := hcl
      clear hcl hhas hbel
      go_upto_region 10 with fail
      go_cut [] (fun wx => (0 < n → ∃ blk ds, sa = some ⟨blk, 0, none⟩ ∧ n ≤ c' ∧ w.heap.size < blk ∧ Go.Sort.PermIn 0 n (arr X n) ds ∧ Go.Sort.SortedIn Go.Sort.ltInt 0 n ds ∧ Go.Sort.Holds (Value.int .u16) wx blk 0 ds) ∧ Has wx w.heap.size X n ∧ Below w.heap.size w wx)
      case first =>
        rcases Nat.eq_zero_or_pos n with hn0 | hn0
        · subst hn0
          go_wp2_with (go_at_call 12; go_must (refine (So.sort0 sa c' _).mono ?_); rintro e w2 ⟨rfl, rfl⟩)
          go_meet
          case rel => exact ⟨fun h => absurd h (by omega), HH.out, HBel.out⟩
        · obtain ⟨blk, hsa, hc', hblk, hH⟩ := HC.out hn0
          subst hsa
          have HHo : Hid (Go.Sort.Holds (Value.int .u16) wc blk 0 (arr X n)) := hH
          clear hH HC
          go_wp2_with (go_at_call 12; go_must (refine (So.sort12 blk 0 n c' (arr X n) _ (arr_size X n) (by omega) HHo).mono ?_); rintro e w2 ⟨rfl, ds, hp, hs, hst⟩)
          go_meet
          case rel =>
            have hlt := has_lt HH.out
            exact ⟨fun _ => ⟨blk, ds, rfl, hc', hblk, hp, hs, hst.2⟩, has_below (w0 := w) HH.out (hst.1.block _ hlt (by simp; omega)), HBel.out.grown hst.1 HBel.out.size (by intro k hk; cases hk; omega)⟩
      case rest =>
        clear HH HBel HC
        obtain ⟨hcl, hhas, hbel⟩ := hcut
        have HH : Hid (Has wc w.heap.size X n) := hhas
        have HBel : Hid (Below w.heap.size w wc) := hbel
        have HC : Hid (0 < n → ∃ blk ds, sa = some ⟨blk, 0, none⟩ ∧ n ≤ c' ∧ w.heap.size < blk ∧ Go.Sort.PermIn 0 n (arr X n) ds ∧ Go.Sort.SortedIn Go.Sort.ltInt 0 n ds ∧ Go.Sort.Holds (Value.int .u16) wc blk 0 ds) := hcl
        clear hcl hhas hbel
        go_upto_region 11 with fail
        go_cut [6] (fun y wx => ∃ (sb : Option Addr) (m c2 : Nat), y = .slice sb m c2 ∧ Ready w wx sb m)
        case first =>
          rcases Nat.eq_zero_or_pos n with hn0 | hn0
          · subst hn0
            go_wp2_with (go_at_call 13; go_must (refine (So.compact0 sa c' _).mono ?_); rintro e w2 ⟨rfl, rfl⟩)
            go_meet
            case rel => exact ⟨sa, 0, c', rfl, ready_zero sa HH.out HBel.out⟩
          · obtain ⟨blk, ds, hsa, hc', hblk, hp, hs, hH⟩ := HC.out hn0
            subst hsa
            have HHo : Hid (Go.Sort.PermIn 0 n (arr X n) ds ∧ Go.Sort.SortedIn Go.Sort.ltInt 0 n ds ∧ Go.Sort.Holds (Value.int .u16) wc blk 0 ds) := ⟨hp, hs, hH⟩
            have hds : ds.size = n := by rw [hp.1, arr_size]
            clear hH HC hp hs
            go_wp2_with (go_at_call 13; go_must (refine (So.compact13 blk 0 n c' ds _ hds (by omega) hc' HHo.out.2.2).mono ?_); rintro e w2 ⟨rfl, d', hd', hst, he⟩)
            go_meet
            case rel =>
              have hlt := has_lt HH.out
              exact ⟨_, _, c', rfl, ready_of HXB.out (by omega) HHo.out.1 HHo.out.2.1 hst.2 hd' he (has_below (w0 := w) HH.out (hst.1.block _ hlt (by simp; omega))) (HBel.out.grown hst.1 HBel.out.size (by intro k hk; cases hk; omega))⟩
        case rest =>
          clear HH HBel HC HXB
          obtain ⟨sb, m, c2, rfl, W, c, S, blk, hsb, hcell, hm, hW, hasc, hbm, hbel⟩ := hcut
          have HW : Hid (∀ j, W j < 18446744073709551616) := hW
          have HA : Hid (Asc W S m) := hasc
          have HB : Hid (wc.heap[w.heap.size]? = some (.cells (bmap W c) 28 (0, 0))) := hbm
          have HBel : Hid (Below w.heap.size w wc) := hbel
          have HSB : Hid (0 < m → sb = some ⟨blk, 0, none⟩) := hsb
          have HCE : Hid (∀ i, i < m → wc.cell? ⟨blk, 0 + i, none⟩ = some (.int .u16 (S i)) ∧ (S i : Int) < 65536) := hcell
          clear hW hasc hbm hbel hsb hcell
          go_wp2
          go_loopg [7, 8, 9, 32] m (fun gk x _ _ i wr => ∃ k : Nat, i = .int .i64 k ∧ k + gk = m ∧ x = .int .i64 (cnt W (top S k)) ∧ cnt W (top S k) ≤ k ∧ wr = wc)
          case atStart => exact ⟨0, rfl, by omega, by simp [top, cnt_zero], by simp [top, cnt_zero], rfl⟩
          case round =>
            obtain ⟨k, rfl, hk, rfl, hck, rfl⟩ := hrel
            by_cases hlt : k < m
            · have hsb2 := HSB.out (by omega)
              subst hsb2
              have c0 := (HCE.out k hlt).1
              rw [Nat.zero_add] at c0
              have s0 := (HCE.out k hlt).2
              have hstep := cnt_step HA.out k hlt
              obtain ⟨t, ht⟩ : ∃ t, t = cnt W (top S k) := ⟨_, rfl⟩
              rw [← ht] at hck hstep ⊢
              have l1 : (k : Int) < m := by omega
              rcases Nat.eq_zero_or_pos k with hk0 | hk0
              · subst hk0
                rw [if_pos (.inl rfl)] at hstep
                have HST : Hid (cnt W (top S (0 + 1)) = t + 1) := hstep
                have e0 : (((0 : Nat) : Int) == 0) = true := rfl
                clear hstep ht
                go_wp2
                go_roundg (gk - 1)
                case measure => omega
                case rel => exact ⟨0 + 1, by go_num, by omega, by rw [HST.out]; go_num, by rw [HST.out]; omega, rfl⟩
              · obtain ⟨j, rfl⟩ : ∃ j, k = j + 1 := ⟨k - 1, by omega⟩
                have c1 := (HCE.out j (by omega)).1
                rw [Nat.zero_add] at c1
                have s1 := (HCE.out j (by omega)).2
                have e0 : (((j : Int) + 1) == 0) = false := by simp; omega
                have l2 : (j : Int) < m := by omega
                rw [Nat.add_sub_cancel] at hstep
                by_cases hne : S (j + 1) = S j + 1
                · rw [if_neg (by omega)] at hstep
                  have HST : Hid (cnt W (top S (j + 1 + 1)) = t + 0) := hstep
                  have e1 : (((S (j + 1) : Nat) : Int) != ((S j : Nat) : Int) + 1) = false := by simp; omega
                  obtain ⟨u, hu⟩ : ∃ u : Int, u = ((S (j + 1) : Nat) : Int) := ⟨_, rfl⟩
                  obtain ⟨v, hv⟩ : ∃ v : Int, v = ((S j : Nat) : Int) := ⟨_, rfl⟩
                  have v0 : 0 ≤ v := by omega
                  have v1 : v < 65536 := by omega
                  have u0 : 0 ≤ u := by omega
                  have u1 : u < 65536 := by omega
                  rw [← hu] at c0 e1
                  rw [← hv] at c1 e1
                  clear hstep ht s0 s1 hu hv hne
                  go_wp2
                  go_roundg (gk - 1)
                  case measure => omega
                  case rel => exact ⟨j + 1 + 1, by go_num, by omega, by rw [HST.out]; rfl, by rw [HST.out]; omega, rfl⟩
                · rw [if_pos (.inr hne)] at hstep
                  have HST : Hid (cnt W (top S (j + 1 + 1)) = t + 1) := hstep
                  have e1 : (((S (j + 1) : Nat) : Int) != ((S j : Nat) : Int) + 1) = true := by simp; omega
                  obtain ⟨u, hu⟩ : ∃ u : Int, u = ((S (j + 1) : Nat) : Int) := ⟨_, rfl⟩
                  obtain ⟨v, hv⟩ : ∃ v : Int, v = ((S j : Nat) : Int) := ⟨_, rfl⟩
                  have v0 : 0 ≤ v := by omega
                  have v1 : v < 65536 := by omega
                  have u0 : 0 ≤ u := by omega
                  have u1 : u < 65536 := by omega
                  rw [← hu] at c0 e1
                  rw [← hv] at c1 e1
                  clear hstep ht s0 s1 hu hv hne
                  go_wp2
                  go_roundg (gk - 1)
                  case measure => omega
                  case rel => exact ⟨j + 1 + 1, by go_num, by omega, by rw [HST.out]; go_num, by rw [HST.out]; omega, rfl⟩
            · obtain rfl : k = m := by omega
              have hend : runs W 1024 = cnt W (top S k) := by
                rw [cnt_all W HW.out (64 * 1024) rfl]
                exact cnt_end HA.out _ (fun i hi => by have := (HCE.out i hi).2; omega)
              have HE : Hid (runs W 1024 = cnt W (top S k)) := hend
              clear hend
              have e0 : (((cnt W (top S k) : Nat) : Int) == ((cnt W (top S k) : Nat) : Int)) = true := by simp
              go_wp2_with (go_at_call 9; go_must (refine (Map.runCount w.heap.size W c _ HW.out HB.out).mono ?_); rintro e w2 ⟨rfl, rfl⟩; rw [HE.out])
              go_ret
              exact ⟨rfl, HBel.out⟩
end Go.Proofs.Ybulkabsy.Vals
