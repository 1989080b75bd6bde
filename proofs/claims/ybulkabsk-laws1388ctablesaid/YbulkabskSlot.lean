import Derived.Test.YbulkabskRows
import Derived.WalkKit
import Derived.WalkSpells
import Derived.WalkLawsBesides
import Derived.ProofKit
import Derived.Below
import Derived.RegionTactic
import Derived.Deep.QuietTactic
import Derived.BigQuiet
import Derived.Deep.DeepCutAuto
import Derived.Deep.CutBlock
import Derived.Deep.Draws
import Derived.OneCell
namespace Go.Proofs.Ybulkabsk.Slot
open Go.RowKit
set_option linter.unusedVariables false
set_option linter.unusedSimpArgs false

theorem short_yes (e : Int) (h : (bits .and .u64 e 255 != 128) = true) (w : World) : Calls Yba.prog 11 #[.int .u64 e] w fun x w' => x = .returned (.bool true) ∧ w' = w := by
  go_enter Yba.func11, Yba.ntmps11
  go_wp2
  go_ret
  exact ⟨rfl, rfl⟩
theorem key_any (e : Int) (w : World) : Calls Yba.prog 7 #[.int .u64 e] w fun x w' => x = .returned (.int .u64 (bits .andNot .u64 e 9259542123273814144)) ∧ w' = w := by
  go_enter Yba.func7, Yba.ntmps7
  go_wp2
  go_ret
  exact ⟨rfl, rfl⟩
theorem hash_any (k s : Int) (w : World) : Calls Yba.prog 8 #[.int .u64 k, .int .u64 s] w fun x w' => x = .returned (.int .u64 (IntKind.u64.wrap (IntKind.u64.wrap (k * 11400714819323198485) + s))) ∧ w' = w := by
  go_enter Yba.func8, Yba.ntmps8
  go_wp2
  go_ret
  exact ⟨rfl, rfl⟩
theorem entry_any (x : Int) (h0 : 0 ≤ x) (h1 : x < 18446744073709551616) (w : World) : Calls Yba.prog 6 #[.int .u64 x] w fun e w' => e = .returned (.int .u64 (bits .or .u64 (bits .and .u64 (bits .andNot .u64 x 255) 72057594037927935) (1 + x % 127))) ∧ w' = w := by
  go_enter Yba.func6, Yba.ntmps6
  go_wp2
  go_ret
  exact ⟨rfl, rfl⟩

/-- Words as cells. -/
def words (W : Nat → Int) (m : Nat) : Array Value := ((List.range m).map fun j => Value.int .u64 (W j)).toArray
theorem words_at (W : Nat → Int) (m j : Nat) (h : j < m) : (words W m)[j]? = some (.int .u64 (W j)) := by simp [words, h]
theorem words_size (W : Nat → Int) (m : Nat) : (words W m).size = m := by simp [words]
theorem words_congr {W W' : Nat → Int} {m : Nat} (h : ∀ j, j < m → W j = W' j) : words W m = words W' m := by
  unfold words
  congr 1
  apply List.map_congr_left
  intro j hj
  rw [h j (by simpa using hj)]
/-- A slot is filled. -/
def upd (W : Nat → Int) (s : Nat) (t v : Int) : Nat → Int := fun x => if x = 2 * s then t else if x = 2 * s + 1 then v else W x
theorem words_upd (W : Nat → Int) (m s : Nat) (t v : Int) (h : 2 * s + 1 < m) : ((words W m).setIfInBounds (2 * s) (.int .u64 t)).setIfInBounds (2 * s + 1) (.int .u64 v) = words (upd W s t v) m := by
  apply Array.ext_getElem?
  intro j
  rw [Array.getElem?_setIfInBounds, Array.getElem?_setIfInBounds]
  simp only [Array.size_setIfInBounds, words_size]
  by_cases hjm : j < m
  · rw [words_at _ _ _ hjm, words_at _ _ _ hjm]
    unfold upd
    by_cases h1 : j = 2 * s
    · subst h1
      rw [if_neg (by omega), if_pos rfl, if_pos (by omega), if_pos rfl]
    · by_cases h2 : j = 2 * s + 1
      · subst h2
        rw [if_pos rfl, if_pos h, if_neg h1, if_pos rfl]
      · rw [if_neg (fun e => h2 e.symm), if_neg (fun e => h1 e.symm), if_neg h1, if_neg h2]
  · rw [if_neg (by omega), if_neg (by omega), Array.getElem?_eq_none (by rw [words_size]; omega), Array.getElem?_eq_none (by rw [words_size]; omega)]

/-- A block behind a store into one of its cells. -/
theorem block_set {w : World} {b j : Nat} {cs : Array Value} {T : TypeId} {u : Value} (h : w.heap[b]? = some (.cells cs T (0, 0))) : (w.setCell ⟨b, j, none⟩ u).heap[b]? = some (.cells (cs.setIfInBounds j u) T (0, 0)) := by
  have hlt := lt_of_block h
  have h' : w.heap[b] = .cells cs T (0, 0) := by simpa [Array.getElem?_eq_getElem hlt] using h
  show (w.heap.modify b _)[b]? = _
  rw [Array.getElem?_eq_getElem (by simpa using hlt), Array.getElem_modify_self, h']
  rfl

theorem wraps_u64' (n : Int) (h₀ : 0 ≤ n) (h₁ : n < 2 ^ 64) : IntKind.u64.wrap n = n := by rw [IntKind.wrap_u64]; omega
theorem mask_eq (lg S : Nat) (h1 : 2 ≤ lg) (h2 : lg ≤ 10) (HS : S = 2 ^ lg) : IntKind.u64.wrap (IntKind.u64.wrap (2 ^ (64 - (64 - lg))) - 1) = (S : Int) - 1 := by
  rw [show 64 - (64 - lg) = lg from by omega]
  have hS : ((2 : Int) ^ lg) = (S : Int) := by rw [HS]; simp
  have hb : S ≤ 1024 := by rw [HS]; exact Nat.le_trans (Nat.pow_le_pow_right (by decide) h2) (by decide)
  have hp : 0 < S := by rw [HS]; exact Nat.two_pow_pos lg
  rw [hS, wraps_u64' (S : Int) (by omega) (by omega), wraps_u64' _ (by omega) (by omega)]
theorem and_mask (lg S x : Nat) (h2 : lg ≤ 10) (HS : S = 2 ^ lg) (hx : x ≤ 1024) : bits .and .u64 ((x : Int) + 1) ((S : Int) - 1) = (((x + 1) % S : Nat) : Int) := by
  have hS : ((2 : Int) ^ lg) = (S : Int) := by rw [HS]; simp
  have := bits_mask .u64 64 (by decide) wraps_u64' lg (by omega) ((x : Int) + 1) (by omega) (by omega)
  rw [hS] at this
  rw [this]
  simp

/-- What slot hands back and leaves. -/
def Post (g S st : Nat) (tag : Int) (i : Nat) (ins : Bool) (W : Nat → Int) (w : World) (e : Ending) (w' : World) : Prop :=
  ∃ j, j < S ∧ (∀ d, d < j → W (2 * ((st + d) % S)) ≠ 0 ∧ W (2 * ((st + d) % S)) ≠ tag) ∧
    ((W (2 * ((st + j) % S)) = tag ∧ e = .returned (.pointer (some ⟨g, 2 * ((st + j) % S) + 1, none⟩)) ∧ Below w.heap.size w w') ∨
     (W (2 * ((st + j) % S)) = 0 ∧ ins = false ∧ e = .returned (.pointer none) ∧ Below w.heap.size w w') ∨
     (W (2 * ((st + j) % S)) = 0 ∧ ins = true ∧ e = .returned (.pointer (some ⟨g, 2 * ((st + j) % S) + 1, none⟩)) ∧ w.grownBy w' (some g) ∧ w'.heap[g]? = some (.cells (words (upd W ((st + j) % S) tag i) (2 * S)) 24 (0, 0))))

set_option maxRecDepth 100000 in
set_option maxHeartbeats 1000000 in
theorem slot_any (ns g lg S st : Nat) (pre e h tag : Int) (i : Nat) (ins : Bool) (W : Nat → Int) (w : World) (hlg : 2 ≤ lg) (hlg' : lg ≤ 10)
    (HS : Hid (S = 2 ^ lg)) (hS1 : 4 ≤ S) (hS2 : S ≤ 1024) (hnl : ns < w.heap.size) (hgl : g < w.heap.size)
    (hns : w.cell? ⟨ns, 6, none⟩ = some (.slice (some ⟨g, 0, none⟩) (2 * S) (2 * S)))
    (hg : Hid (w.heap[g]? = some (.cells (words W (2 * S)) 24 (0, 0))))
    (hsh : (bits .and .u64 e 255 != 128) = true) (htag : bits .andNot .u64 e 9259542123273814144 = tag) (htag0 : 1 ≤ tag) (hst : h / 2 ^ (64 - lg) = (st : Int)) (hst' : st < S) (hi : i ≤ 1024)
    (hh0 : 0 ≤ h) (hh1 : h < 18446744073709551616) (hE : Hid (∃ d, d < S ∧ W (2 * ((st + d) % S)) = 0)) :
    Calls Yba.prog 10 #[.agg #[.pointer (some ⟨ns, 0, none⟩), .int .u64 (64 - lg), .int .u64 pre], .int .u64 e, .int .u64 h, .int .i64 i, .bool ins] w fun e w' => Post g S st tag i ins W w e w' := by
  have hmask := mask_eq lg S hlg hlg' HS.out
  go_enter Yba.func10, Yba.ntmps10
  go_upto_block 0 with (first
    | (go_at_call 7; refine (key_any _ _).mono ?_; rintro e w' ⟨rfl, rfl⟩)
    | (go_at_call 11; refine (short_yes _ hsh _).mono ?_; rintro e w' ⟨rfl, rfl⟩))
  clear hmask hst htag
  go_wp2
  go_loopg [14] S (fun k sl wr => ∃ (j q : Nat), k + j = S ∧ sl = .int .u64 (((st + j) % S : Nat) : Int) ∧ (∀ d, d < j → W (2 * ((st + d) % S)) ≠ 0 ∧ W (2 * ((st + d) % S)) ≠ tag) ∧
    wr = (w.alloc (.cells #[.pointer (some ⟨ns, 0, none⟩), .int .u64 (64 - lg), .int .u64 pre] 28)).drewN q)
  case atStart => exact ⟨0, 0, by omega, by simp [Nat.mod_eq_of_lt hst'], fun d hd => by omega, rfl⟩
  case round =>
    obtain ⟨j, q, hjk, rfl, hpre, rfl⟩ := hrel
    have hjS : j < S := by
      obtain ⟨d, hd, hd0⟩ := hE.out
      rcases Nat.lt_or_ge d j with h | h
      · exact absurd hd0 (hpre d h).1
      · omega
    have Hp : Hid (∀ d, d < j → W (2 * ((st + d) % S)) ≠ 0 ∧ W (2 * ((st + d) % S)) ≠ tag) := hpre
    clear hpre
    have hsS : (st + j) % S < S := Nat.mod_lt _ (by omega)
    obtain ⟨s, hs⟩ : ∃ s, s = (st + j) % S := ⟨_, rfl⟩
    have Hs : Hid (s = (st + j) % S) := hs
    rw [← hs] at hsS ⊢
    clear hs
    have c0 : w.cell? ⟨g, 2 * s, none⟩ = some (.int .u64 (W (2 * s))) := by rw [cell_of_row _ _ _ _ _ _ hg.out, words_at _ _ _ (by omega)]
    have c1 : w.cell? ⟨g, 2 * s + 1, none⟩ = some (.int .u64 (W (2 * s + 1))) := by rw [cell_of_row _ _ _ _ _ _ hg.out, words_at _ _ _ (by omega)]
    have f0 : w.frozen? ⟨g, 2 * s, none⟩ = false := frozen_of_row _ _ _ _ _ hg.out
    have f1 : w.frozen? ⟨g, 2 * s + 1, none⟩ = false := frozen_of_row _ _ _ _ _ hg.out
    have i0 : (2 : Int) * s < 2 * S := by omega
    have i1 : (2 : Int) * s + 1 < 2 * S := by omega
    by_cases z : (W (2 * s) == 0) = true
    · cases ins with
      | false =>
        go_wp2
        go_ret
        refine ⟨j, hjS, Hp.out, .inr (.inl ⟨by rw [← Hs.out]; exact beq_iff_eq.1 z, rfl, rfl, ?_⟩)⟩
        exact ⟨rfl, rfl, rfl, by simp, fun i hi => Below.heap_alloc w _ i hi⟩
      | true =>
        go_wp2
        go_ret
        refine ⟨j, hjS, Hp.out, .inr (.inr ⟨by rw [← Hs.out]; exact beq_iff_eq.1 z, rfl, by rw [← Hs.out]; rfl, ?_, ?_⟩)⟩
        · refine ⟨rfl, rfl, rfl, by simp [World.setCell], fun x hx hxg => ?_⟩
          have hxg' : x ≠ g := fun e => hxg (by rw [e])
          rw [Below.heap_setCell _ _ _ _ (by simpa using hxg'), Below.heap_setCell _ _ _ _ (by simpa using hxg')]
          exact Below.heap_alloc w _ x hx
        · rw [← Hs.out, ← words_upd _ _ _ _ _ (by omega)]
          exact block_set (block_set ((Below.heap_alloc w _ g hgl).trans hg.out))
    · have z : (W (2 * s) == 0) = false := by simpa using z
      by_cases zt : (W (2 * s) == tag) = true
      · have hzt : W (2 * s) = tag := beq_iff_eq.1 zt
        have Hzt : Hid (W (2 * s) = tag) := hzt
        rw [hzt] at c0 z
        clear zt hzt
        have hand := and_mask lg S s hlg' HS.out (by omega)
        have i2 : (0 : Int) ≤ 2 * s := by omega
        go_wp2
        go_quiet ((go_at_call 11; refine (short_yes _ hsh _).mono ?_; rintro e w' ⟨rfl, rfl⟩; exact ⟨rfl, _, rfl⟩))
        go_wp2
        go_ret
        refine ⟨j, hjS, Hp.out, .inl ⟨by rw [← Hs.out]; exact Hzt.out, by rw [← Hs.out]; rfl, ?_⟩⟩
        exact ⟨rfl, rfl, rfl, by simp, fun i hi => Below.heap_alloc w _ i hi⟩
      · have zt : (W (2 * s) == tag) = false := by simpa using zt
        have hand := and_mask lg S s hlg' HS.out (by omega)
        go_wp2
        go_quiet ((go_at_call 11; exact Calls.quiet_of_same (short_yes _ hsh _)))
        go_wp2
        go_roundg (gk - 1)
        case measure => omega
        case rel =>
          refine ⟨j + 1, _, by omega, ?_, fun d hd => ?_, rfl⟩
          · have : (s + 1) % S = (st + (j + 1)) % S := by rw [Hs.out, Nat.mod_add_mod]; rfl
            rw [← this]; simp
          · rcases Nat.lt_or_ge d j with h | h
            · exact Hp.out d h
            · have : d = j := by omega
              subst this
              rw [← Hs.out]
              exact ⟨beq_eq_false_iff_ne.1 z, beq_eq_false_iff_ne.1 zt⟩
end Go.Proofs.Ybulkabsk.Slot
