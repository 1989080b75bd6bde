import Derived.Test.YbulkabskTab
import Derived.Test.YbulkabskPlain
import Derived.Test.YbulkabskEntry
import Derived.Laws.Pointers
namespace Go.Proofs.Ybulkabsk.State
open Go.RowKit Go.Proofs.Ybulkabsk.Slot Go.Proofs.Ybulkabsk.Plain
set_option linter.unusedVariables false
set_option linter.unusedSimpArgs false

/-- Where a search for the key begins. -/
def start (seed : Int) (lg : Nat) (k : Int) : Nat := (IntKind.u64.wrap (IntKind.u64.wrap (k * 11400714819323198485) + seed) / 2 ^ (64 - lg)).toNat
theorem start_eq (seed : Int) (lg : Nat) (k : Int) : IntKind.u64.wrap (IntKind.u64.wrap (k * 11400714819323198485) + seed) / 2 ^ (64 - lg) = (start seed lg k : Int) := by
  unfold start
  have h0 : 0 ≤ IntKind.u64.wrap (IntKind.u64.wrap (k * 11400714819323198485) + seed) := by rw [IntKind.wrap_u64 (_ + _)]; omega
  have h1 : (0 : Int) < 2 ^ (64 - lg) := Int.pow_pos (by decide)
  have : 0 ≤ IntKind.u64.wrap (IntKind.u64.wrap (k * 11400714819323198485) + seed) / 2 ^ (64 - lg) := Int.ediv_nonneg h0 (by omega)
  omega
theorem hash_range (seed : Int) (k : Int) : 0 ≤ IntKind.u64.wrap (IntKind.u64.wrap (k * 11400714819323198485) + seed) ∧ IntKind.u64.wrap (IntKind.u64.wrap (k * 11400714819323198485) + seed) < 18446744073709551616 := by
  rw [IntKind.wrap_u64 (_ + _)]; omega
theorem start_lt (seed : Int) (lg S : Nat) (k : Int) (h2 : lg ≤ 10) (HS : S = 2 ^ lg) : start seed lg k < S := by
  have h := start_eq seed lg k
  have hr := (hash_range seed k).2
  have hp : (2 : Int) ^ (64 - lg) * (S : Int) = 18446744073709551616 := by
    have : (S : Int) = 2 ^ lg := by rw [HS]; simp
    rw [this, ← Int.pow_add, show 64 - lg + lg = 64 from by omega]
    decide
  have hpos : (0 : Int) < 2 ^ (64 - lg) := Int.pow_pos (by decide)
  have : IntKind.u64.wrap (IntKind.u64.wrap (k * 11400714819323198485) + seed) / 2 ^ (64 - lg) < (S : Int) := Int.ediv_lt_of_lt_mul hpos (by rw [Int.mul_comm (S : Int) (2 ^ (64 - lg)), hp]; exact hr)
  omega

/-- Where the law's own blocks lie: the variable t, the words, the set, the keys, the numbers. -/
structure Cfg where
  tb : Nat
  g : Nat
  ns : Nat
  kb : Nat
  fb : Nat
  S : Nat
  lg : Nat
  n : Nat

structure Cfg.ok (c : Cfg) (B : Nat) : Prop where
  S2 : c.S = 2 ^ c.lg
  lg1 : 2 ≤ c.lg
  lg2 : c.lg ≤ 10
  S4 : 4 ≤ c.S
  S1024 : c.S ≤ 1024
  n2 : 2 * c.n ≤ c.S
  g1 : B ≤ c.g
  ns1 : B ≤ c.ns
  gns : c.g ≠ c.ns
  gt : c.g < c.tb
  nst : c.ns < c.tb
  tk : c.tb < c.kb
  kf : c.kb < c.fb

/-- The law's own memory. -/
structure St (w wr : World) (c : Cfg) (W : Nat → Int) (ks : List Int) (fs : List Nat) : Prop where
  bel : Below w.heap.size w wr
  t : wr.heap[c.tb]? = some (.cells #[.pointer (some ⟨c.ns, 0, none⟩), .int .u64 (64 - c.lg), .int .u64 0] 28 (0, 0))
  set : wr.cell? ⟨c.ns, 6, none⟩ = some (.slice (some ⟨c.g, 0, none⟩) (2 * c.S) (2 * c.S))
  words : wr.heap[c.g]? = some (.cells (words W (2 * c.S)) 24 (0, 0))
  keys : wr.ownsRow w.heap.size 24 1 (.slice (some ⟨c.kb, 0, none⟩) ks.length c.n) ks.length (ks.map (Value.int .u64))
  firsts : wr.ownsRow w.heap.size 3 1 (.slice (some ⟨c.fb, 0, none⟩) fs.length c.n) fs.length (fs.map fun i : Nat => Value.int .i64 i)

theorem block_of_own {w : World} {b e : Nat} {g n cap : Nat} {xs : List Value} (h : w.ownsRow b e 1 (.slice (some ⟨g, 0, none⟩) n cap) n xs) : g < w.heap.size := (h.lt g rfl).2

theorem St.fbl {w wr : World} {c : Cfg} {W : Nat → Int} {ks : List Int} {fs : List Nat} (h : St w wr c W ks fs) : c.fb < wr.heap.size := block_of_own h.firsts

theorem St.later {w wr wx : World} {c : Cfg} {W : Nat → Int} {ks : List Int} {fs : List Nat} (hc : c.ok w.heap.size) (h : St w wr c W ks fs) (hb : Below wr.heap.size wr wx) : St w wx c W ks fs := by
  have hf := h.fbl
  have a1 := hc.gt; have a2 := hc.nst; have a3 := hc.tk; have a4 := hc.kf; have a5 := h.bel.size
  have hg : wr.grownBy wx none := ⟨hb.os, hb.tape, hb.output, hb.size, fun k hk _ => hb.block k hk⟩
  exact ⟨h.bel.trans (hb.mono a5), (hb.block _ (by omega)).trans h.t, (hb.cell (p := ⟨c.ns, 6, none⟩) (show c.ns < _ from by omega)).trans h.set, (hb.block _ (by omega)).trans h.words,
    h.keys.kept hg (.inr (by simp [Value.ownBlock])), h.firsts.kept hg (.inr (by simp [Value.ownBlock]))⟩

theorem St.slotted {w wr wx : World} {c : Cfg} {W W' : Nat → Int} {ks : List Int} {fs : List Nat} (hc : c.ok w.heap.size) (h : St w wr c W ks fs) (hg : wr.grownBy wx (some c.g)) (hw : wx.heap[c.g]? = some (.cells (Slot.words W' (2 * c.S)) 24 (0, 0))) : St w wx c W' ks fs := by
  have hf := h.fbl
  have a1 := hc.gt; have a2 := hc.nst; have a3 := hc.tk; have a4 := hc.kf; have a5 := h.bel.size; have a6 := hc.gns; have a7 := hc.g1
  exact ⟨h.bel.grown hg a5 (fun k hk => by simp at hk; omega), (hg.block _ (by omega) (by simp; omega)).trans h.t, (World.cell?_of_block (hg.block c.ns (by omega) (by simp; omega))).trans h.set, hw,
    h.keys.kept hg (.inr (by simp [Value.ownBlock]; omega)), h.firsts.kept hg (.inr (by simp [Value.ownBlock]; omega))⟩

theorem St.keyed {w wr wx : World} {c : Cfg} {W : Nat → Int} {ks ks' : List Int} {fs : List Nat} (hc : c.ok w.heap.size) (h : St w wr c W ks fs) (hg : wr.grownBy wx (some c.kb))
    (hk : wx.ownsRow w.heap.size 24 1 (.slice (some ⟨c.kb, 0, none⟩) ks'.length c.n) ks'.length (ks'.map (Value.int .u64))) : St w wx c W ks' fs := by
  have hf := h.fbl
  have a1 := hc.gt; have a2 := hc.nst; have a3 := hc.tk; have a4 := hc.kf; have a5 := h.bel.size; have a6 := hc.gns; have a7 := hc.g1
  exact ⟨h.bel.grown hg a5 (fun k hk => by simp at hk; omega), (hg.block _ (by omega) (by simp; omega)).trans h.t, (World.cell?_of_block (hg.block c.ns (by omega) (by simp; omega))).trans h.set,
    (hg.block _ (by omega) (by simp; omega)).trans h.words, hk, h.firsts.kept hg (.inr (by simp [Value.ownBlock]; omega))⟩

theorem St.numbered {w wr wx : World} {c : Cfg} {W : Nat → Int} {ks : List Int} {fs fs' : List Nat} (hc : c.ok w.heap.size) (h : St w wr c W ks fs) (hg : wr.grownBy wx (some c.fb))
    (hk : wx.ownsRow w.heap.size 3 1 (.slice (some ⟨c.fb, 0, none⟩) fs'.length c.n) fs'.length (fs'.map fun i : Nat => Value.int .i64 i)) : St w wx c W ks fs' := by
  have hf := h.fbl
  have a1 := hc.gt; have a2 := hc.nst; have a3 := hc.tk; have a4 := hc.kf; have a5 := h.bel.size; have a6 := hc.gns; have a7 := hc.g1
  exact ⟨h.bel.grown hg a5 (fun k hk => by simp at hk; omega), (hg.block _ (by omega) (by simp; omega)).trans h.t, (World.cell?_of_block (hg.block c.ns (by omega) (by simp; omega))).trans h.set,
    (hg.block _ (by omega) (by simp; omega)).trans h.words, h.keys.kept hg (.inr (by simp [Value.ownBlock]; omega)), hk⟩

theorem St.key {w wr : World} {c : Cfg} {W : Nat → Int} {ks : List Int} {fs : List Nat} (h : St w wr c W ks fs) (i : Nat) (hi : i < ks.length) : wr.cell? ⟨c.kb, i, none⟩ = some (.int .u64 (ks.getD i 0)) := by
  have := h.keys.cells (g := c.kb) rfl i (.int .u64 (ks.getD i 0)) (by rw [List.getElem?_map, List.getElem?_eq_getElem hi, List.getD_eq_getElem?_getD, List.getElem?_eq_getElem hi]; rfl)
  rwa [show (⟨c.kb, 0, none⟩ : Addr).add i = ⟨c.kb, i, none⟩ from by unfold Addr.add; split <;> simp_all] at this
theorem St.first {w wr : World} {c : Cfg} {W : Nat → Int} {ks : List Int} {fs : List Nat} (h : St w wr c W ks fs) (i : Nat) (hi : i < fs.length) : wr.cell? ⟨c.fb, i, none⟩ = some (.int .i64 (fs.getD i 0 : Nat)) := by
  have := h.firsts.cells (g := c.fb) rfl i (.int .i64 (fs.getD i 0 : Nat)) (by rw [List.getElem?_map, List.getElem?_eq_getElem hi, List.getD_eq_getElem?_getD, List.getElem?_eq_getElem hi]; rfl)
  rwa [show (⟨c.fb, 0, none⟩ : Addr).add i = ⟨c.fb, i, none⟩ from by unfold Addr.add; split <;> simp_all] at this
theorem St.word {w wr : World} {c : Cfg} {W : Nat → Int} {ks : List Int} {fs : List Nat} (h : St w wr c W ks fs) (i : Nat) (hi : i < 2 * c.S) : wr.cell? ⟨c.g, i, none⟩ = some (.int .u64 (W i)) := by
  rw [cell_of_row _ _ _ _ _ _ h.words, words_at _ _ _ hi]
theorem St.tcells {w wr : World} {c : Cfg} {W : Nat → Int} {ks : List Int} {fs : List Nat} (h : St w wr c W ks fs) :
    wr.cell? ⟨c.tb, 0, none⟩ = some (.pointer (some ⟨c.ns, 0, none⟩)) ∧ wr.cell? ⟨c.tb, 1, none⟩ = some (.int .u64 (64 - c.lg)) ∧ wr.cell? ⟨c.tb, 2, none⟩ = some (.int .u64 0) := by
  refine ⟨?_, ?_, ?_⟩ <;> (rw [cell_of_row _ _ _ _ _ _ h.t]; rfl)

/-- The call of slot, in the law's words. -/
theorem slot_call {w wr : World} {c : Cfg} {W : Nat → Int} {ks : List Int} {fs : List Nat} (hc : c.ok w.heap.size) (h : St w wr c W ks fs) (seed : Int) (hI : Inv c.S (start seed c.lg) W ks fs) (hl : ks.length < c.S)
    (e : Int) (k : Int) (i : Nat) (ins : Bool) (hsh : (bits .and .u64 e 255 != 128) = true) (hk : bits .andNot .u64 e 9259542123273814144 = k) (hk1 : 1 ≤ k) (hi : i ≤ 1024) :
    Calls Yba.prog 10 #[.agg #[.pointer (some ⟨c.ns, 0, none⟩), .int .u64 (64 - c.lg), .int .u64 0], .int .u64 e, .int .u64 (IntKind.u64.wrap (IntKind.u64.wrap (k * 11400714819323198485) + seed)), .int .i64 i, .bool ins] wr
      fun e w' => Slot.Post c.g c.S (start seed c.lg k) k i ins W wr e w' := by
  have hf := h.fbl
  have a1 := hc.gt; have a2 := hc.nst; have a3 := hc.tk; have a4 := hc.kf
  have hr := hash_range seed k
  exact slot_any c.ns c.g c.lg c.S (start seed c.lg k) 0 e _ k i ins W wr hc.lg1 hc.lg2 hc.S2 hc.S4 hc.S1024 (by omega) (by omega) h.set h.words hsh hk hk1 (start_eq seed c.lg k) (start_lt seed c.lg c.S k hc.lg2 hc.S2) hi hr.1 hr.2
    (free hI hl _ (start_lt seed c.lg c.S k hc.lg2 hc.S2))
end Go.Proofs.Ybulkabsk.State
