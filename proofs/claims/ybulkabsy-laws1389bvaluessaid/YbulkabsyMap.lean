import Derived.Test.YbulkabsyOnes
import Derived.Test.YbulkabsyRuns
import Derived.Deep.MidRow
import Derived.RegionTactic
import Derived.Deep.RegionWith
import Derived.Deep.QuietTactic
import Derived.BigQuiet
import Derived.Deep.DeepCutAuto
import Derived.Deep.CutBlock
import Derived.OneCell
namespace Go.Proofs.Ybulkabsy.Map
open Go.RowKit Go.Proofs.Ybulkabsy.Pop Go.Proofs.Ybulkabsy.Runs
set_option linter.unusedVariables false
set_option linter.unusedSimpArgs false

/-- The words as cells. -/
def wordCells (W : Nat → Nat) : List Value := (List.range 1024).map fun j => Value.int .u64 (W j)
/-- A bitmap's block: the words, then the count. -/
def bmap (W : Nat → Nat) (c : Int) : Array Value := (wordCells W).toArray.push (.int .i64 c)
theorem wordCells_length (W : Nat → Nat) : (wordCells W).length = 1024 := by simp [wordCells]
theorem wordCells_at (W : Nat → Nat) (j : Nat) (h : j < 1024) : (wordCells W)[j]? = some (.int .u64 (W j)) := by simp [wordCells, h]
theorem bmap_at (W : Nat → Nat) (c : Int) (j : Nat) (h : j < 1024) : (bmap W c)[j]? = some (.int .u64 (W j)) := by
  unfold bmap
  rw [Array.getElem?_push, if_neg (by simp [wordCells]; omega)]
  simpa using wordCells_at W j h
theorem bmap_card (W : Nat → Nat) (c : Int) : (bmap W c)[1024]? = some (.int .i64 c) := by
  unfold bmap
  rw [Array.getElem?_push, if_pos (by simp [wordCells])]
theorem bmap_size (W : Nat → Nat) (c : Int) : (bmap W c).size = 1025 := by simp [bmap, wordCells]
theorem bmap_set_card (W : Nat → Nat) (c d : Int) : (bmap W c).setIfInBounds 1024 (.int .i64 d) = bmap W d := by
  apply Array.ext_getElem?
  intro j
  rw [Array.getElem?_setIfInBounds, bmap_size]
  by_cases h : j < 1024
  · rw [if_neg (by omega), bmap_at _ _ _ h, bmap_at _ _ _ h]
  · by_cases h' : j = 1024
    · subst h'; rw [if_pos rfl, if_pos (by omega), bmap_card]
    · rw [if_neg (fun e => h' e.symm), Array.getElem?_eq_none (by rw [bmap_size]; omega), Array.getElem?_eq_none (by rw [bmap_size]; omega)]
/-- One word anew. -/
def put (W : Nat → Nat) (i v : Nat) : Nat → Nat := fun j => if j = i then v else W j
theorem bmap_set (W : Nat → Nat) (c : Int) (i v : Nat) (hi : i < 1024) : (bmap W c).setIfInBounds i (.int .u64 v) = bmap (put W i v) c := by
  apply Array.ext_getElem?
  intro j
  rw [Array.getElem?_setIfInBounds, bmap_size]
  by_cases h : j < 1024
  · rw [bmap_at _ _ _ h, bmap_at _ _ _ h]
    unfold put
    by_cases h' : j = i
    · subst h'; rw [if_pos rfl, if_pos (by omega), if_pos rfl]
    · rw [if_neg (fun e => h' e.symm), if_neg h']
  · rw [if_neg (by omega)]
    by_cases h' : j = 1024
    · subst h'; rw [bmap_card, bmap_card]
    · rw [Array.getElem?_eq_none (by rw [bmap_size]; omega), Array.getElem?_eq_none (by rw [bmap_size]; omega)]

/-- The zero bitmap, as the program's table of types has it. -/
def Z28 : Value := .agg ((Array.replicate 1024 (.int .u64 0)).push (.int .i64 0))
theorem info28 : (Yba.prog.info? 28).map (fun i => (i.zero, i.size, i.bytes)) = some (some Z28, 1025, 8200) := by kernel_rfl
theorem replicate_map (n : Nat) (v : Value) : Array.replicate n v = ((List.range n).map fun _ => v).toArray := by
  apply Array.ext_getElem?
  intro j
  by_cases h : j < n
  · simp [h]
  · rw [Array.getElem?_eq_none (by simp; omega), Array.getElem?_eq_none (by simp; omega)]
theorem cells_agg (a : Array Value) : (Value.agg a).cells = a := rfl
theorem z28_cells : Z28.cells = bmap (fun _ => 0) 0 := by
  unfold Z28 bmap wordCells
  rw [cells_agg, replicate_map]
  simp only [Int.natCast_zero]

/-- 'new(T)' of a great type: its zero value is not laid open. -/
theorem wpList_alloc_big {P : Program} {ops : Array Oper} {rest : List Oper} {o : Oper} {a : Act} {w : World} {Q : Exit → Act → World → Prop} (hgd : o.guard = none) (ty : TypeId) (ho : o.op = .alloc ty) (i : TypeInfo) (z : Value) (hi : P.info? ty = some i) (hz : i.zero = some z)
    (h : ∀ w', Hid (w'.heap[w.heap.size]? = some (.cells z.cells ty (0, 0))) → Below w.heap.size w w' → wpList P ops Q rest (a.put o.dst (.pointer (some ⟨w.heap.size, 0, none⟩))) w') : wpList P ops Q (o :: rest) a w := by
  refine wpList_plain hgd fun K hK => ?_
  unfold Oper.wp
  simp [execOp, ho, Instr.alloc, zeroValue, typeInfo, hi, hz, newVar, newRow, Result.andThen]
  exact hK _ _ (h _ (Go.heap_alloc_new w _) ((Below.refl _ _).alloc (Nat.le_refl _) _))

theorem info25 : (Yba.prog.info? 25).map (fun i => (i.zero, i.size, i.bytes)) = some (some (.int .u64 0), 1, 8) := by kernel_rfl
theorem size26 : (Yba.prog.info? 26).map (·.size) = some 1024 := by kernel_rfl
/-- An element of a great array value. -/
theorem run_index_big (cs : Array Value) (j : Nat) (v : Value) (hj : j < 1024) (hv : cs[j]? = some v) (w : World) : (Instr.index 26 (.agg cs) (.int .i64 j)).run Yba.prog w = .ok v w := by
  obtain ⟨i25, h25, z250, z251, z252⟩ := info_parts info25
  have h1 : (0 : Int) ≤ (j : Int) ∧ (j : Int) < 1024 := by omega
  simp [Instr.index, asIntOf, run_underlying Yba.underlying26, h1.2, part, isAgg, run_underlying Yba.underlying25, sizeOf, typeInfo, h25, z251, hv]
  intro h; omega

theorem range_words {w : World} {bb : Nat} {W : Nat → Nat} {c : Int} {T : TypeId} (h : w.heap[bb]? = some (.cells (bmap W c) T (0, 0))) : w.rangeAt bb 0 (wordCells W) := by
  intro j v hv
  have hj : j < 1024 := by
    rcases Nat.lt_or_ge j 1024 with h | h
    · exact h
    · rw [List.getElem?_eq_none (by rw [wordCells_length]; exact h)] at hv; cases hv
  rw [wordCells_at _ _ hj] at hv
  cases hv
  rw [Nat.zero_add, cell_of_row _ _ _ _ _ _ h, bmap_at _ _ _ hj]

theorem heads_eq (W : Nat → Nat) (hW : ∀ j, W j < 18446744073709551616) (k : Nat) :
    bits .andNot .u64 (W k : Int) (bits .or .u64 (IntKind.u64.wrap ((W k : Int) * 2)) (below W k : Int)) = (heads W k : Int) ∧ heads W k < 18446744073709551616 := by
  have hb := below_le W hW k
  have e1 : IntKind.u64.wrap ((W k : Int) * 2) = ((W k * 2 % 18446744073709551616 : Nat) : Int) := by rw [IntKind.wrap_u64]; omega
  have l1 : W k * 2 % 18446744073709551616 < 18446744073709551616 := Nat.mod_lt _ (by decide)
  have e2 := u64_or_nat (W k * 2 % 18446744073709551616) (below W k) l1 (by omega)
  have l2 : (W k * 2 % 18446744073709551616) ||| below W k < 18446744073709551616 := Nat.or_lt_two_pow (n := 64) l1 (by omega)
  have e3 := u64_andNot_nat (W k) _ (hW k) l2
  rw [e1, e2, e3]
  exact ⟨rfl, Nat.lt_of_le_of_lt Nat.and_le_left (hW k)⟩

set_option maxRecDepth 100000 in
set_option maxHeartbeats 1000000 in
/-- (*bitmapData).runCount. -/
theorem runCount (bb : Nat) (W : Nat → Nat) (c : Int) (w : World) (hW : ∀ j, W j < 18446744073709551616) (hb : w.heap[bb]? = some (.cells (bmap W c) 28 (0, 0))) :
    Calls Yba.prog 9 #[.pointer (some ⟨bb, 0, none⟩)] w fun e w' => e = .returned (.int .i64 (runs W 1024)) ∧ w' = w := by
  have Hr : Hid (w.rangeAt bb 0 (wordCells W)) := range_words hb
  have HW : Hid (∀ j, W j < 18446744073709551616) := hW
  clear hb hW
  go_enter Yba.func9, Yba.ntmps9
  go_upto_block 0 with (refine wpList_load_mid rfl 26 (.tmp 9) rfl bb 0 rfl (wordCells W) _ Hr.out Yba.underlying26 rfl (by rw [wordCells_length]; exact size26) ?_)
  go_wp2
  go_loop [3, 4, 11] (fun n b i => ∃ k : Nat, k ≤ 1024 ∧ i = .int .i64 k ∧ n = .int .i64 (runs W k) ∧ b = .int .u64 (below W k)) (fun _ _ i => 1024 - (intOf i).toNat)
  case atStart => exact ⟨0, by omega, rfl, rfl, rfl⟩
  case round =>
    obtain ⟨k, hk, rfl, rfl, rfl⟩ := hrel
    by_cases hlt : k < 1024
    · have hix := fun (wx : World) => run_index_big (wordCells W).toArray k (.int .u64 (W k)) hlt (by simpa using wordCells_at W k hlt) wx
      obtain ⟨hh, hhl⟩ := heads_eq W HW.out k
      have hWk := HW.out k
      have hrl := runs_le W k
      have hpl := pop_le (heads W k)
      have Hones : Hid (∀ wx, Calls Yba.prog 16 #[.int .u64 (heads W k)] wx fun e w' => e = .returned (.int .i64 (pop (heads W k))) ∧ wx = w') := fun wx => (Ones.ones _ hhl wx).mono fun _ _ h => ⟨h.1, h.2.symm⟩
      have Hn : Hid (runs W (k + 1) = runs W k + pop (heads W k)) := rfl
      have Hb : Hid (below W (k + 1) = W k / 9223372036854775808) := rfl
      go_wp2_with (go_at_call 16; refine (Hones.out _).mono ?_; rintro e w' ⟨rfl, rfl⟩)
      go_round
      case rel =>
        refine ⟨k + 1, by omega, by go_num, ?_, ?_⟩
        · rw [Hn.out]; simp
        · rw [Hb.out]; simp
      case measure => simp [intOf]; omega
    · have hk' : k = 1024 := by omega
      subst hk'
      go_wp2
      go_ret
      exact ⟨rfl, rfl⟩

theorem bit_eq (W : Nat → Nat) (hW : ∀ j, W j < 18446744073709551616) (v : Nat) : (bits .and .u64 ((W (v / 64) : Int) / 2 ^ (v % 64)) 1 != 0) = bit W v := by
  have h1 : W (v / 64) / 2 ^ (v % 64) < 18446744073709551616 := Nat.lt_of_le_of_lt (Nat.div_le_self _ _) (hW _)
  have e1 : ((W (v / 64) : Int) / 2 ^ (v % 64)) = ((W (v / 64) / 2 ^ (v % 64) : Nat) : Int) := by simp
  have e2 := u64_and_nat (W (v / 64) / 2 ^ (v % 64)) 1 h1 (by omega)
  rw [e1, show (1 : Int) = ((1 : Nat) : Int) from rfl, e2, Nat.and_one_is_mod]
  unfold bit
  rw [Nat.testBit_eq_decide_div_mod_eq]
  rcases Nat.mod_two_eq_zero_or_one (W (v / 64) / 2 ^ (v % 64)) with h | h <;> simp [h]

set_option maxRecDepth 100000 in
set_option maxHeartbeats 1000000 in
/-- zzs1389bbit. -/
theorem bitOf (bb : Nat) (W : Nat → Nat) (c : Int) (v : Nat) (hv : v < 65536) (w : World) (hW : ∀ j, W j < 18446744073709551616) (hb : w.heap[bb]? = some (.cells (bmap W c) 28 (0, 0))) :
    Calls Yba.prog 8 #[.pointer (some ⟨bb, 0, none⟩), .int .i64 v] w fun e w' => e = .returned (.bool (bit W v)) ∧ w' = w := by
  have hlt : v / 64 < 1024 := by omega
  have c0 : w.cell? ⟨bb, v / 64, none⟩ = some (.int .u64 (W (v / 64))) := by rw [cell_of_row _ _ _ _ _ _ hb, bmap_at _ _ _ hlt]
  have hl := hW (v / 64)
  have Hbit : Hid ((bits .and .u64 ((W (v / 64) : Int) / 2 ^ (v % 64)) 1 != 0) = bit W v) := bit_eq W hW v
  clear hb hW
  go_enter Yba.func8, Yba.ntmps8
  go_wp2
  go_ret
  exact ⟨congrArg (fun b => Ending.returned (.bool b)) Hbit.out, rfl⟩

/-- A block behind a store into one of its cells. -/
theorem block_set {w : World} {b j : Nat} {cs : Array Value} {T : TypeId} {u : Value} (h : w.heap[b]? = some (.cells cs T (0, 0))) : (w.setCell ⟨b, j, none⟩ u).heap[b]? = some (.cells (cs.setIfInBounds j u) T (0, 0)) := by
  have hlt := lt_of_block h
  have h' : w.heap[b] = .cells cs T (0, 0) := by simpa [Array.getElem?_eq_getElem hlt] using h
  show (w.heap.modify b _)[b]? = _
  rw [Array.getElem?_eq_getElem (by simpa using hlt), Array.getElem_modify_self, h']
  rfl
theorem grown_set (w : World) (b j : Nat) (u : Value) : w.grownBy (w.setCell ⟨b, j, none⟩ u) (some b) :=
  ⟨rfl, rfl, rfl, by simp [World.setCell], fun k hk hkb => Below.heap_setCell w _ _ k (fun e => hkb (by simp [e]))⟩
theorem grown_trans {a b c : World} {r : Option Nat} (h : a.grownBy b r) (k : b.grownBy c r) : a.grownBy c r :=
  ⟨k.os.trans h.os, k.tape.trans h.tape, k.output.trans h.output, Nat.le_trans h.size k.size, fun i hi hr => (k.block i (Nat.lt_of_lt_of_le hi h.size) hr).trans (h.block i hi hr)⟩

set_option maxRecDepth 100000 in
set_option maxHeartbeats 1000000 in
/-- (*bitmapData).recount: the words stand; the count is whatever it is. -/
theorem recount (bb : Nat) (W : Nat → Nat) (c : Int) (w : World) (hW : ∀ j, W j < 18446744073709551616) (hb : w.heap[bb]? = some (.cells (bmap W c) 28 (0, 0))) :
    Calls Yba.prog 7 #[.pointer (some ⟨bb, 0, none⟩)] w fun e w' => e = .returned (.tuple #[]) ∧ w.grownBy w' (some bb) ∧ ∃ c', w'.heap[bb]? = some (.cells (bmap W c') 28 (0, 0)) := by
  have hb0 : (w.setCell ⟨bb, 1024, none⟩ (.int .i64 0)).heap[bb]? = some (.cells (bmap W 0) 28 (0, 0)) := by rw [← bmap_set_card W c 0]; exact block_set hb
  have Hr : Hid ((w.setCell ⟨bb, 1024, none⟩ (.int .i64 0)).rangeAt bb 0 (wordCells W)) := range_words hb0
  have HB : Hid ((w.setCell ⟨bb, 1024, none⟩ (.int .i64 0)).heap[bb]? = some (.cells (bmap W 0) 28 (0, 0))) := hb0
  have HW : Hid (∀ j, W j < 18446744073709551616) := hW
  have k0 : w.cell? ⟨bb, 1024, none⟩ = some (.int .i64 c) := by rw [cell_of_row _ _ _ _ _ _ hb, bmap_card]
  have f0 : w.frozen? ⟨bb, 1024, none⟩ = false := frozen_of_row _ _ _ _ _ hb
  clear hb hW hb0
  go_enter Yba.func7, Yba.ntmps7
  go_upto_block 0 with (refine wpList_load_mid rfl 26 (.tmp 9) rfl bb 0 rfl (wordCells W) _ Hr.out Yba.underlying26 rfl (by rw [wordCells_length]; exact size26) ?_)
  go_wp2
  go_loopw [11] (fun i wr => ∃ (k q : Nat), k ≤ 1024 ∧ i = .int .i64 k ∧ q ≤ 64 * k ∧ wr.heap[bb]? = some (.cells (bmap W q) 28 (0, 0)) ∧ w.grownBy wr (some bb)) (fun i _ => 1024 - (intOf i).toNat)
  case atStart => exact ⟨0, 0, by omega, rfl, by omega, HB.out, grown_set _ _ _ _⟩
  case round =>
    clear HB Hr k0 f0
    obtain ⟨k, q, hk, rfl, hq, hb, hg⟩ := hrel
    by_cases hlt : k < 1024
    · have hix := fun (wx : World) => run_index_big (wordCells W).toArray k (.int .u64 (W k)) hlt (by simpa using wordCells_at W k hlt) wx
      have k0 : wr.cell? ⟨bb, 1024, none⟩ = some (.int .i64 q) := by rw [cell_of_row _ _ _ _ _ _ hb, bmap_card]
      have f0 : wr.frozen? ⟨bb, 1024, none⟩ = false := frozen_of_row _ _ _ _ _ hb
      have hpl := pop_le (W k)
      have Hones : Hid (∀ wx, Calls Yba.prog 16 #[.int .u64 (W k)] wx fun e w' => e = .returned (.int .i64 (pop (W k))) ∧ wx = w') := fun wx => (Ones.ones _ (HW.out k) wx).mono fun _ _ h => ⟨h.1, h.2.symm⟩
      have HB : Hid (wr.heap[bb]? = some (.cells (bmap W q) 28 (0, 0))) := hb
      have Hw : Hid (IntKind.i64.wrap ((q : Int) + pop (W k)) = (q : Int) + pop (W k)) := by show _ = _; rw [IntKind.wrap_i64]; omega
      clear hb
      go_upto_block 1 with fail
      go_cut [] (fun wx => wx = (wr.setCell ⟨bb, 1024, none⟩ (.int .i64 (q + pop (W k)))).drew)
      case first =>
        go_upto_region 4 with fail
        go_region_with (go_at_call 16; refine (Hones.out _).mono ?_; rintro e w' ⟨rfl, rfl⟩)
        all_goals (go_wp2_with fail; go_meet; rw [Hw.out])
      case rest =>
        obtain rfl := hcut
        go_wp2
        go_roundw
        case rel =>
          refine ⟨k + 1, q + pop (W k), by omega, by go_num, by omega, ?_, grown_trans hg ⟨rfl, rfl, rfl, (grown_set wr bb 1024 (.int .i64 ((q : Int) + pop (W k)))).size, (grown_set wr bb 1024 (.int .i64 ((q : Int) + pop (W k)))).block⟩⟩
          have h := block_set (j := 1024) (u := .int .i64 ((q : Int) + pop (W k))) HB.out
          rw [bmap_set_card] at h
          rw [show ((q + pop (W k) : Nat) : Int) = (q : Int) + pop (W k) from by omega]
          exact h
        case measure => simp [intOf]; omega
    · go_wp2
      go_end0
      exact ⟨rfl, hg, q, hb⟩
end Go.Proofs.Ybulkabsy.Map
