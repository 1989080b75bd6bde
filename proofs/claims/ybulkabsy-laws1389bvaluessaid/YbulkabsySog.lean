import Derived.Test.YbulkabsySof
import Derived.Shelf.SlicesE.Compact
import Derived.Shelf.SlicesE.Clone
import Derived.Ground.SlgnProg
namespace Go.Proofs
open Go.Shelf
shelf_lay_g SlLaysE0.n41 Slgn 41 at Yba 11 as Yba.cloneU16
shelf_lay_g SlLaysE.n43 Slgn 43 at Yba 13 as Yba.compactU16
namespace Ybulkabsy.So
open Go.RowKit Go.Sort Go.Proofs.Ybulkabsy.Srch
set_option linter.unusedVariables false
set_option linter.unusedSimpArgs false

theorem info23 : (Yba.prog.info? 23).map (fun i => (i.zero, i.size, i.bytes)) = some (some (.int .u16 0), 1, 2) := by kernel_rfl
theorem lst_at (d : Array Int) (j : Nat) (u : Value) (h : (d.toList.map (Value.int .u16))[j]? = some u) : j < d.size ∧ u = .int .u16 d[j]! := by
  rw [List.getElem?_map] at h
  rcases Nat.lt_or_ge j d.size with h1 | h1
  · rw [List.getElem?_eq_getElem (by simpa using h1)] at h
    simp at h
    refine ⟨h1, ?_⟩
    rw [← h]
    simp [h1]
  · rw [List.getElem?_eq_none (by simpa using h1)] at h
    cases h

theorem clone11 (xb xo n cap : Nat) (d : Array Int) (w : World) (hn : d.size = n) (hn2 : n ≤ 100000) (hc : ∀ j, j < n → w.cell? ⟨xb, xo + j, none⟩ = some (.int .u16 d[j]!)) :
    Calls Yba.prog 11 #[.slice (some ⟨xb, xo, none⟩) n cap] w fun e w' => ∃ blk c', e = .returned (.slice (some ⟨blk, 0, none⟩) n c') ∧ n ≤ c' ∧ w.heap.size ≤ blk ∧ Holds (Value.int .u16) w' blk 0 d ∧ RowKit.Below w.heap.size w w' := by
  obtain ⟨i23, h23, z0, z1, z2⟩ := info_parts info23
  have hsz : ∀ w, (Go.sizeOf 23).run Yba.prog w = .ok 1 w := Yba.sizeOf23
  refine (AnyE.slices_Clone Yba.cloneU16 i23 (.int .u16 0) 1 2 h23 z0 z1 z2 rfl (by decide) hsz xb xo n cap (d.toList.map (Value.int .u16)) w (by simp [hn]) (by unfold maxLen; omega) (by omega)
    (fun j u hu => by obtain ⟨h1, rfl⟩ := lst_at d j u hu; exact hc j (by omega)) (fun u hu => by simp at hu; obtain ⟨x, _, rfl⟩ := hu; rfl)).mono ?_
  rintro e w' ⟨v', rfl, hown, hne, hbel⟩
  obtain ⟨hlen, h2⟩ := hown
  rcases h2 with ⟨h, _⟩ | ⟨g, c, cur, hv, hg, hh, hx1, hx2, hcs, ht⟩
  · exact absurd h hne
  · subst hv
    refine ⟨g, c, rfl, hx1, hg, ?_, hbel⟩
    intro j hj
    refine ⟨?_, frozen_of_row _ _ _ _ _ hh⟩
    rw [cell_of_row _ _ _ _ _ _ hh, Nat.zero_add]
    have h1 : (List.take (n * 1) cur.toList)[j]? = cur.toList[j]? := by
      rw [List.getElem?_take, if_pos (by omega)]
    rw [← Array.getElem?_toList, ← h1, ht, List.getElem?_map, List.getElem?_eq_getElem (by simpa using hj)]
    simp [hj]
theorem compact_len (d : Array Int) (m : Nat) : (Lib.compactUpTo d m).length ≤ m := by
  unfold Lib.compactUpTo
  rw [List.length_map]
  exact Nat.le_trans (List.length_filter_le _ _) (by simp)
theorem grown_putRow (w : World) (q blk off : Nat) (d : Array Int) : w.grownBy (putRow (Value.int .u16) (Sort.ahead w q) blk off d) (some blk) := by
  refine ⟨rfl, rfl, rfl, by simp [putRow, mapBlock, Sort.ahead], fun k hk hne => ?_⟩
  show (w.heap.modify blk _)[k]? = w.heap[k]?
  rw [Array.getElem?_modify, if_neg (fun h => hne (by simp [h]))]

theorem arr_app (l : List Int) (m j : Nat) (hj : j < l.length) : (l ++ List.replicate m 0).toArray[j]! = l[j]! := by
  simp [getElem!_def, List.getElem?_append_left hj]
theorem compact13 (blk off n cap : Nat) (d : Array Int) (w : World) (hn : d.size = n) (hn2 : n ≤ 100000) (hcap : n ≤ cap) (hH : Holds (Value.int .u16) w blk off d) :
    Calls Yba.prog 13 #[.slice (some ⟨blk, off, none⟩) n cap] w fun e w' => e = .returned (.slice (some ⟨blk, off, none⟩) (Lib.compactUpTo d n).length cap) ∧ ∃ d', d'.size = n ∧ St w w' blk off d' ∧ ∀ j, j < (Lib.compactUpTo d n).length → d'[j]! = (Lib.compactUpTo d n)[j]! := by
  subst hn
  refine (AnyE.slices_Compact Yba.compactU16 (Value.int .u16) (fun _ => rfl) (EqlAt.intD _ _ .u16) (NeqAt.intD _ _ .u16) 0 Yba.zeroValue23 blk off cap d w hH (by omega) hcap).mono ?_
  rintro e w' ⟨rfl, q, rfl⟩
  have hl := compact_len d d.size
  have hs : (Lib.compactUpTo d d.size ++ List.replicate (d.size - (Lib.compactUpTo d d.size).length) 0).toArray.size = d.size := by
    simp
    omega
  refine ⟨rfl, _, hs, ⟨grown_putRow _ _ _ _ _, holds_putRow (Value.int .u16) (Sort.ahead w q) blk off d _ (holds_ahead _ _ _ _ _ _ hH) hs⟩, fun j hj => ?_⟩
  exact arr_app _ _ _ hj

set_option maxRecDepth 100000 in
theorem ins0 (a : Option Addr) (c : Nat) (w : World) : Calls Yba.prog 21 #[.slice a 0 c, .int .i64 0, .int .i64 0] w fun e w' => e = .returned (.tuple #[]) ∧ w' = w := by
  go_enter Yba.func21, Yba.ntmps21
  go_wp2
  go_loopw [6, 7] (fun x _ wr => x = .int .i64 1 ∧ wr = w) (fun _ _ _ => 0)
  case atStart => exact ⟨rfl, rfl⟩
  case round =>
    obtain ⟨rfl, rfl⟩ := hrel
    go_wp2
    go_end0
    exact ⟨rfl, rfl⟩
set_option maxRecDepth 100000 in
theorem pdq0 (a : Option Addr) (c : Nat) (w : World) : Calls Yba.prog 17 #[.slice a 0 c, .int .i64 0, .int .i64 0, .int .i64 0] w fun e w' => e = .returned (.tuple #[]) ∧ w' = w := by
  go_enter Yba.func17, Yba.ntmps17
  go_wp2
  go_loopg [1, 2, 3, 8, 9, 10, 11, 12, 13, 14, 15, 16, 17, 18] 0 (fun gk x1 x2 x3 x8 x9 _ _ _ _ _ _ _ _ _ wr => x1 = .int .i64 0 ∧ x2 = .int .i64 0 ∧ wr = w)
  case atStart => exact ⟨rfl, rfl, rfl⟩
  case round =>
    obtain ⟨rfl, rfl, rfl⟩ := hrel
    go_wp2_with (go_at_call 21; go_must (refine (ins0 _ _ _).mono ?_); rintro e w' ⟨rfl, rfl⟩)
    refine bodyPost_ret (v := .tuple #[]) (by simp [results, Yba.results17, go_sem]) rfl ⟨rfl, rfl⟩
set_option maxRecDepth 100000 in
theorem sort0 (a : Option Addr) (c : Nat) (w : World) : Calls Yba.prog 12 #[.slice a 0 c] w fun e w' => e = .returned (.tuple #[]) ∧ w' = w := by
  have hk : Lib.bitLen 0 = 0 := by decide
  go_enter Yba.func12, Yba.ntmps12
  go_wp2_with (first
    | (go_at_call 18; go_must (refine (len18 0 _ (by omega) (by omega)).mono ?_); rintro e w' ⟨rfl, rfl⟩; rw [show (0 : Int).toNat = 0 from rfl, hk])
    | (go_at_call 17; go_must (refine (pdq0 _ _ _).mono ?_); rintro e w' ⟨rfl, rfl⟩))
  go_end0
  exact ⟨rfl, rfl⟩
theorem compact0 (a : Option Addr) (c : Nat) (w : World) : Calls Yba.prog 13 #[.slice a 0 c] w fun e w' => e = .returned (.slice a 0 c) ∧ w' = w := by
  go_enter Yba.func13, Yba.ntmps13
  go_wp2
  go_ret
  exact ⟨rfl, rfl⟩
theorem clone0 (c : Nat) (w : World) : Calls Yba.prog 11 #[.slice none 0 c] w fun e w' => e = .returned (.slice none 0 0) ∧ w' = w := AnyE.slices_Clone_nil Yba.cloneU16 0 c w
end Ybulkabsy.So
end Go.Proofs
