import Derived.Test.YbulkabpeHdr
import Derived.OneCell
namespace Go.Proofs.Ybulkabpe.Mem
open Go.RowKit
set_option linter.unusedVariables false

/-! ### append onto a slice over a block of whatever tag (a local array's own block, or one that an earlier append made) -/
section
variable {P : Program} (w : World)

theorem run_append_tag (t ty e : TypeId) (i : TypeInfo) (z : Value) (size bytes : Nat) (ht : P.underlying t = some (.slice e)) (hi : P.info? e = some i) (hz : i.zero = some z)
    (hsize : i.size = size) (hby : i.bytes = bytes) (hzs : z.cells.size = size)
    (g n cap : Nat) (cur : Array Value) (T : TypeId) (hg : w.heap[g]? = some (.cells cur T (0, 0))) (hnc : n ≤ cap) (hcm : cap ≤ maxLen) (hcs : cur.size = cap * size)
    (ad : Addr) (m c : Nat) (news : List Value) (hl : news.length = m * size) (hnews : ∀ j u, news[j]? = some u → w.cell? (ad.add j) = some u) (h1 : ∀ u ∈ news, u.oneCell' = true)
    (h63 : n + m ≤ maxLen) (hbytes : (n + m) * bytes ≤ 140737488355328) :
    ∃ g' cap' cur' T' w', (Builtin.append_ #[t, t] ty #[.slice (some ⟨g, 0, none⟩) n cap, .slice (some ad) m c]).run P w = .ok (.slice (some ⟨g', 0, none⟩) (n + m) cap') w' ∧
      w'.heap[g']? = some (.cells cur' T' (0, 0)) ∧ (g' = g ∨ g' = w.heap.size) ∧ n + m ≤ cap' ∧ cap' ≤ maxLen ∧ cur'.size = cap' * size ∧
      cur'.toList.take ((n + m) * size) = cur.toList.take (n * size) ++ news ∧ w.grownBy w' (some g) := by
  subst hsize
  subst hby
  have hx : (cur.toList.take (n * i.size)).length = n * i.size := by
    have : n * i.size ≤ cap * i.size := Nat.mul_le_mul_right _ hnc
    simp; omega
  have hlen : (cur.toList.take (n * i.size) ++ news).length = (n + m) * i.size := by rw [List.length_append, hx, hl, Nat.add_mul]
  by_cases hroom : n + m ≤ cap
  · have hfit : n * i.size + news.length ≤ cur.size := by rw [hl, hcs, ← Nat.add_mul]; exact Nat.mul_le_mul_right _ hroom
    have hf := run_firstCells_some (P := P) w i.size m ad m c news hl hnews
    have hst := run_storeCells_at P g (n * i.size) T news 0 cur w hg (by simpa using hfit) h1
    simp only [Nat.add_zero] at hst
    refine ⟨g, cap, _, T, _, by simp [Builtin.append_, run_underlying ht, sizeOf, typeInfo, hi, Builtin.lenOf, hroom, hf, Addr.add_lit, hst]; rfl, setRow_heap w g cur _ T _ hg, .inl rfl, hroom, hcm, ?_, ?_, ⟨rfl, rfl, rfl, by simp, fun k _ hk => setRow_other w g k _ (fun e => hk (by rw [e]))⟩⟩
    · simp only [List.size_toArray, List.length_append, List.length_take, List.length_drop, Array.length_toList]
      omega
    · rw [← hlen]
      simp only [← List.append_assoc]
      exact List.take_left
  · have holds : ∀ j u, (cur.toList.take (n * i.size))[j]? = some u → w.cell? ((⟨g, 0, none⟩ : Addr).add j) = some u := by
      intro j u hu
      have hadd : (⟨g, 0, none⟩ : Addr).add j = ⟨g, j, none⟩ := by unfold Addr.add; split <;> simp_all
      rw [hadd, cell_of_row w g j cur T (0, 0) hg]
      rw [List.getElem?_take] at hu
      split at hu
      · simpa using hu
      · cases hu
    have hr := run_append_grow (P := P) w t ty e i z ht hi hz ⟨g, 0, none⟩ n cap (cur.toList.take (n * i.size)) hx holds ad m c news hl hnews (by omega) (by simp only [maxLen] at h63; omega) (growslice_fits (by omega) hbytes)
    have hge := grownCap_ge w (n + m) cap e
    have hcm' : grownCap w (n + m) cap e ≤ maxLen := grownCap_le_maxLen w (n + m) cap e h63
    refine ⟨_, _, _, _, _, hr, heap_alloc_new w.drew _, .inr rfl, hge, hcm', ?_, ?_, ⟨rfl, rfl, rfl, by simp, fun k hk _ => Below.heap_alloc w.drew _ k hk⟩⟩
    · simp only [Array.size_append, List.size_toArray, size_zeroCells, hzs, hx, hl, ← Nat.add_mul]
      congr 1
      omega
    · simp only [Array.toList_append]
      rw [← hlen]
      exact List.take_left

theorem wpList_append_tag {ops : Array Oper} {rest : List Oper} {o : Oper} {a : Act} {Q : Exit → Act → World → Prop} (hgd : o.guard = none) (s x : Operand) (t : TypeId)
    (ho : o.op = .call { callee := .builtin .append, args := #[s, x], argTypes := #[t, t] })
    (e : TypeId) (i : TypeInfo) (z : Value) (size bytes : Nat) (ht : P.underlying t = some (.slice e)) (hi : P.info? e = some i) (hz : i.zero = some z)
    (hsize : i.size = size) (hby : i.bytes = bytes) (hzs : z.cells.size = size)
    (g n cap : Nat) (cur : Array Value) (T : TypeId) (hs : a.eval s = .slice (some ⟨g, 0, none⟩) n cap) (hg : w.heap[g]? = some (.cells cur T (0, 0))) (hnc : n ≤ cap) (hcm : cap ≤ maxLen) (hcs : cur.size = cap * size)
    (ad : Addr) (m c : Nat) (news : List Value) (hx : a.eval x = .slice (some ad) m c) (hl : news.length = m * size) (hnews : ∀ j u, news[j]? = some u → w.cell? (ad.add j) = some u) (h1 : ∀ u ∈ news, u.oneCell' = true)
    (h63 : n + m ≤ maxLen) (hbytes : (n + m) * bytes ≤ 140737488355328)
    (h : ∀ g' cap' cur' T' w', w'.heap[g']? = some (.cells cur' T' (0, 0)) → (g' = g ∨ g' = w.heap.size) → n + m ≤ cap' → cap' ≤ maxLen → cur'.size = cap' * size →
      cur'.toList.take ((n + m) * size) = cur.toList.take (n * size) ++ news → w.grownBy w' (some g) → wpList P ops Q rest (a.put o.dst (.slice (some ⟨g', 0, none⟩) (n + m) cap')) w') : wpList P ops Q (o :: rest) a w := by
  obtain ⟨g', cap', cur', T', w', hr, h2, h3, h4, h5, h6, h7, h8⟩ := run_append_tag (P := P) w t o.type e i z size bytes ht hi hz hsize hby hzs g n cap cur T hg hnc hcm hcs ad m c news hl hnews h1 h63 hbytes
  refine wpList_plain hgd fun _ hK => ?_
  unfold Oper.wp execOp
  simp only [ho, resolve, invoke, builtin, Sem.run_bind, Sem.run_pure, Result.andThen_ok, List.map_toArray, List.map_cons, List.map_nil, hs, hx, hr]
  exact hK _ _ (h g' cap' cur' T' w' h2 h3 h4 h5 h6 h7 h8)
end

/-! ### The stack of walk -/
/-- An open element as its two cells. -/
def pair (p : Nat × Bool) : List Value := [.int .i64 p.1, .bool p.2]
def flat (l : List (Nat × Bool)) : List Value := l.flatMap pair
theorem flat_length (l : List (Nat × Bool)) : (flat l).length = l.length * 2 := by
  induction l with
  | nil => rfl
  | cons p r ih => simp only [flat, List.flatMap_cons, List.length_append, List.length_cons] at ih ⊢; rw [ih]; simp [pair]; omega
theorem flat_snoc (l : List (Nat × Bool)) (p : Nat × Bool) : flat (l ++ [p]) = flat l ++ pair p := by simp [flat]

/-- Where the contents of the innermost open element end. -/
def lim (len : Nat) : List (Nat × Bool) → Nat
  | [] => len
  | (e, _) :: _ => e
/-- The open elements lie within one another; p lies within the innermost. -/
def Nested (len : Nat) : Nat → List (Nat × Bool) → Prop
  | p, [] => p ≤ len
  | p, (e, _) :: r => p ≤ e ∧ Nested len e r
theorem Nested.lim {len p : Nat} {st : List (Nat × Bool)} (h : Nested len p st) : p ≤ Mem.lim len st := by
  match st, h with
  | [], h => exact h
  | (e, i) :: r, h => exact h.1
theorem Nested.to {len p q : Nat} {st : List (Nat × Bool)} (h : Nested len p st) (hq : q ≤ Mem.lim len st) : Nested len q st := by
  match st, h with
  | [], h => exact hq
  | (e, i) :: r, h => exact ⟨hq, h.2⟩
theorem Nested.lim_le {len : Nat} : ∀ {p : Nat} {st : List (Nat × Bool)}, Nested len p st → Mem.lim len st ≤ len
  | _, [], _ => Nat.le_refl _
  | _, (e, i) :: r, h => by
    have h1 := (Nested.lim h.2)
    have h2 := Nested.lim_le h.2
    exact Nat.le_trans h1 h2

/-- What walk's own memory is: the result's variable, the variable 'top', the stack. -/
structure Is (w wr : World) (t s : Int) (v : Value) (st : List (Nat × Bool)) : Prop where
  bel : Below w.heap.size w wr
  res : wr.heap[w.heap.size]? = some (.cells #[.int .u64 0, .int .i64 0, .int .i64 0, .int .i64 0] 44 (0, 0))
  top : wr.heap[w.heap.size + 1]? = some (.cells #[.int .u64 t, .int .i64 s, .int .i64 0, .int .i64 0] 44 (0, 0))
  own : ∃ g cap cur T, v = .slice (some ⟨g, 0, none⟩) st.length cap ∧ w.heap.size + 2 ≤ g ∧ wr.heap[g]? = some (.cells cur T (0, 0)) ∧ st.length ≤ cap ∧ cap ≤ maxLen ∧ cur.size = cap * 2 ∧
    cur.toList.take (st.length * 2) = flat st.reverse

/-- It stands as long as no block that is there turns. -/
theorem Is.later {w wr wx : World} {t s : Int} {v : Value} {st : List (Nat × Bool)} (h : Is w wr t s v st) (hb : Below wr.heap.size wr wx) : Is w wx t s v st := by
  have l0 := lt_of_block h.res
  have l1 := lt_of_block h.top
  refine ⟨h.bel.trans (hb.mono (by omega)), (hb.block _ l0).trans h.res, (hb.block _ l1).trans h.top, ?_⟩
  obtain ⟨g, cap, cur, T, hv, hg, hh, r⟩ := h.own
  exact ⟨g, cap, cur, T, hv, hg, (hb.block _ (lt_of_block hh)).trans hh, r⟩

/-- The two cells of the innermost open element. -/
theorem Is.topCells {w wr : World} {t s : Int} {v : Value} {e : Nat} {i : Bool} {r : List (Nat × Bool)} (h : Is w wr t s v ((e, i) :: r)) :
    ∃ g cap, v = .slice (some ⟨g, 0, none⟩) (r.length + 1) cap ∧ r.length + 1 ≤ cap ∧ cap ≤ maxLen ∧ wr.cell? ⟨g, r.length * 2, none⟩ = some (.int .i64 e) ∧ wr.cell? ⟨g, r.length * 2 + 1, none⟩ = some (.bool i) := by
  obtain ⟨g, cap, cur, T, hv, hg, hh, h1, h2, h3, h4⟩ := h.own
  refine ⟨g, cap, hv, h1, h2, ?_, ?_⟩
  · rw [cell_of_row wr g _ cur T (0, 0) hh, ← Array.getElem?_toList]
    have : (cur.toList.take ((r.length + 1) * 2))[r.length * 2]? = some (.int .i64 e) := by
      have h4 : cur.toList.take ((r.length + 1) * 2) = flat (r.reverse ++ [(e, i)]) := by simpa using h4
      rw [h4, flat_snoc, List.getElem?_append_right (by simp [flat_length]), flat_length]
      simp [pair]
    rw [List.getElem?_take] at this
    rwa [if_pos (by omega)] at this
  · rw [cell_of_row wr g _ cur T (0, 0) hh, ← Array.getElem?_toList]
    have : (cur.toList.take ((r.length + 1) * 2))[r.length * 2 + 1]? = some (.bool i) := by
      have h4 : cur.toList.take ((r.length + 1) * 2) = flat (r.reverse ++ [(e, i)]) := by simpa using h4
      rw [h4, flat_snoc, List.getElem?_append_right (by simp [flat_length]), flat_length]
      simp [pair]
    rw [List.getElem?_take] at this
    rwa [if_pos (by omega)] at this

/-- An element is left. -/
theorem Is.pop {w wr : World} {t s : Int} {g cap : Nat} {p : Nat × Bool} {r : List (Nat × Bool)} (h : Is w wr t s (.slice (some ⟨g, 0, none⟩) (r.length + 1) cap) (p :: r)) :
    Is w wr t s (.slice (some ⟨g, 0, none⟩) r.length cap) r := by
  refine ⟨h.bel, h.res, h.top, ?_⟩
  obtain ⟨g', cap', cur, T, hv, hg, hh, h1, h2, h3, h4⟩ := h.own
  simp at hv
  obtain ⟨rfl, rfl⟩ := hv
  refine ⟨g, cap, cur, T, rfl, hg, hh, by simp at h1; omega, h2, h3, ?_⟩
  have h5 : cur.toList.take ((r.length + 1) * 2) = flat (r.reverse ++ [p]) := by simpa using h4
  have h6 := congrArg (List.take (r.length * 2)) h5
  rw [List.take_take, flat_snoc, List.take_left' (by rw [flat_length]; simp)] at h6
  rw [← h6]; congr 1; omega

/-- An element is entered. -/
theorem Is.push {w wr wx : World} {t s : Int} {g cap g' cap' : Nat} {cur cur' : Array Value} {T' : TypeId} {p : Nat × Bool} {st : List (Nat × Bool)}
    (h : Is w wr t s (.slice (some ⟨g, 0, none⟩) st.length cap) st) (hg0 : w.heap.size + 2 ≤ g) (hcur : cur.toList.take (st.length * 2) = flat st.reverse)
    (hh : wx.heap[g']? = some (.cells cur' T' (0, 0))) (hw : g' = g ∨ g' = wr.heap.size) (h1 : st.length + 1 ≤ cap') (h2 : cap' ≤ maxLen) (h3 : cur'.size = cap' * 2)
    (h4 : cur'.toList.take ((st.length + 1) * 2) = cur.toList.take (st.length * 2) ++ pair p) (hgr : wr.grownBy wx (some g)) :
    Is w wx t s (.slice (some ⟨g', 0, none⟩) (st.length + 1) cap') (p :: st) := by
  have l0 := lt_of_block h.res
  have l1 := lt_of_block h.top
  refine ⟨h.bel.grown hgr (by omega) (fun k hk => by simp at hk; omega), (hgr.block _ l0 (by simp; omega)).trans h.res, (hgr.block _ l1 (by simp; omega)).trans h.top, ?_⟩
  refine ⟨g', cap', cur', T', rfl, by omega, hh, by simpa using h1, h2, h3, ?_⟩
  have : cur'.toList.take ((p :: st).length * 2) = flat (st.reverse ++ [p]) := by rw [flat_snoc, ← hcur]; exact h4
  simpa using this
end Go.Proofs.Ybulkabpe.Mem
