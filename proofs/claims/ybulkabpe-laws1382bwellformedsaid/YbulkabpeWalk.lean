import Derived.Test.YbulkabpeMem
import Derived.Deep.AppendLies
namespace Go.Proofs.Ybulkabpe.Walk
open Go.RowKit Go.Proofs.Ybulkabpe.Mem
set_option linter.unusedVariables false
set_option linter.unusedSimpArgs false

/-- What walk and next hand back: an error beside the zero span; or a span within the octets given. -/
def Post (len : Nat) (e : Ending) : Prop :=
  (∃ k : Int, e = .returned (.tuple #[.agg #[.int .u64 0, .int .i64 0, .int .i64 0, .int .i64 0], .iface 51 (.int .u8 k)])) ∨
  ∃ (t : Int) (s n x : Nat), e = .returned (.tuple #[.agg #[.int .u64 t, .int .i64 s, .int .i64 n, .int .i64 x], .nilIface]) ∧
    1 ≤ t ∧ t < 18446744073709551616 ∧ 2 ≤ s ∧ s ≤ n ∧ n ≤ x ∧ x ≤ len

/-- The state at the head of walk's loop. -/
def Head (w : World) (len : Nat) (v : Value) (p : Nat) (wr : World) : Prop :=
  ∃ (t s : Int) (st : List (Nat × Bool)), Is w wr t s v st ∧ Nested len p st ∧ st.length ≤ p ∧ ((st = [] ∧ p = 0) ∨ (st ≠ [] ∧ 1 ≤ t ∧ t < 18446744073709551616 ∧ 2 ≤ s ∧ s ≤ p))

/-- readHeader at b[p:q], as the walk spells the slice where p is not the capacity. -/
theorem hdr_at (b off len cap : Nat) (z : Nat → Int) (w wr : World) (p q : Nat) (hpq : p ≤ q) (hq : q ≤ len) (hlen : len ≤ 65536) (hm : cap ≤ 9223372036854775807) (hcap : len ≤ cap) (hb : b < w.heap.size)
    (hc : ∀ j, j < len → w.cell? ⟨b, off + j, none⟩ = some (.int .u8 (z j))) (hz : ∀ j, 0 ≤ z j ∧ z j < 256) (hbel : Below w.heap.size w wr) :
    Calls Yba.prog 11 #[.slice (some ⟨b, off + p, none⟩) (q - p) (cap - p)] wr fun e w' => Hdr.Post (q - p) e ∧ Below wr.heap.size wr w' := by
  by_cases h0 : q - p = 0
  · rw [h0]; exact Hdr.empty _ _ _
  · refine Hdr.any b (off + p) (q - p) (cap - p) (fun j => z (p + j)) wr (by omega) (by omega) (by omega) (by omega) (by have := hbel.size; omega) (fun j hj => ?_) (fun j => hz _)
    have := (hbel.cell (p := ⟨b, off + (p + j), none⟩) hb).trans (hc (p + j) (by omega))
    rw [Nat.add_assoc]; exact this

/-- The result's variable in a later world: its four cells, which may be written. -/
theorem res_cells {w wr : World} {t s : Int} {v : Value} {st : List (Nat × Bool)} (h : Is w wr t s v st) :
    wr.cell? ⟨w.heap.size, 0, none⟩ = some (.int .u64 0) ∧ wr.cell? ⟨w.heap.size, 1, none⟩ = some (.int .i64 0) ∧ wr.cell? ⟨w.heap.size, 2, none⟩ = some (.int .i64 0) ∧ wr.cell? ⟨w.heap.size, 3, none⟩ = some (.int .i64 0) ∧
    wr.frozen? ⟨w.heap.size, 0, none⟩ = false ∧ wr.frozen? ⟨w.heap.size, 1, none⟩ = false ∧ wr.frozen? ⟨w.heap.size, 2, none⟩ = false ∧ wr.frozen? ⟨w.heap.size, 3, none⟩ = false ∧ w.heap.size < wr.heap.size := by
  refine ⟨?_, ?_, ?_, ?_, frozen_of_row _ _ _ _ _ h.res, frozen_of_row _ _ _ _ _ h.res, frozen_of_row _ _ _ _ _ h.res, frozen_of_row _ _ _ _ _ h.res, lt_of_block h.res⟩ <;> (rw [cell_of_row _ _ _ _ _ _ h.res]; rfl)

abbrev Z44 : Obj := .cells #[.int .u64 0, .int .i64 0, .int .i64 0, .int .i64 0] 44
abbrev Buf : Array Value := #[.int .i64 0, .bool false, .int .i64 0, .bool false, .int .i64 0, .bool false, .int .i64 0, .bool false, .int .i64 0, .bool false, .int .i64 0, .bool false, .int .i64 0, .bool false, .int .i64 0, .bool false, .int .i64 0, .bool false, .int .i64 0, .bool false, .int .i64 0, .bool false, .int .i64 0, .bool false, .int .i64 0, .bool false, .int .i64 0, .bool false, .int .i64 0, .bool false, .int .i64 0, .bool false]
theorem start (w : World) (len : Nat) : Head w len (.slice (some ⟨w.heap.size + 1 + 1, 0, none⟩) 0 16) 0 (((w.alloc Z44).alloc Z44).alloc (.cells Buf 55)) := by
  refine ⟨0, 0, [], ⟨(((Below.refl _ _).alloc (Nat.le_refl _) _).alloc (by simp) _).alloc (by simp <;> omega) _, ?_, ?_, w.heap.size + 1 + 1, 16, Buf, 55, rfl, by omega, ?_, by decide, by decide, rfl, rfl⟩, Nat.zero_le _, Nat.le_refl _, .inl ⟨rfl, rfl⟩⟩
  · rw [Below.heap_alloc _ _ _ (by simp <;> omega), Below.heap_alloc _ _ _ (by simp)]; exact Go.heap_alloc_new w _
  · rw [Below.heap_alloc _ _ _ (by simp)]
    have := Go.heap_alloc_new (w.alloc Z44) Z44
    simpa using this
  · have := Go.heap_alloc_new ((w.alloc Z44).alloc Z44) (.cells Buf 55)
    simpa using this

theorem info54 : (Yba.prog.info? 54).map (fun i => (i.zero, i.size, i.bytes)) = some (some (.agg #[.int .i64 0, .bool false]), 2, 16) := by kernel_rfl

theorem one2 (n : Int) (x : Bool) : ∀ u ∈ [Value.int .i64 n, .bool x], u.oneCell' = true := by
  intro u hu
  simp at hu
  rcases hu with rfl | rfl <;> rfl

/-- The length of a slice value: for a loop's measure. -/
def lenOf : Value → Nat | .slice _ n _ => n | _ => 0

/-- A block behind a store into one of its cells. -/
theorem block_set {w : World} {b j : Nat} {cs : Array Value} {T : TypeId} {u : Value} (h : w.heap[b]? = some (.cells cs T (0, 0))) : (w.setCell ⟨b, j, none⟩ u).heap[b]? = some (.cells (cs.setIfInBounds j u) T (0, 0)) := by
  have hlt := lt_of_block h
  have h' : w.heap[b] = .cells cs T (0, 0) := by simpa [Array.getElem?_eq_getElem hlt] using h
  show (w.heap.modify b _)[b]? = _
  rw [Array.getElem?_eq_getElem (by simpa using hlt), Array.getElem_modify_self, h']
  rfl

/-- 'top' is set. -/
theorem setTop {w w1 : World} {t s : Int} {v : Value} {st : List (Nat × Bool)} (h : Is w w1 t s v st) (t' s' : Int) :
    Is w ((((w1.setCell ⟨w.heap.size + 1, 0, none⟩ (.int .u64 t')).setCell ⟨w.heap.size + 1, 1, none⟩ (.int .i64 s')).setCell ⟨w.heap.size + 1, 2, none⟩ (.int .i64 0)).setCell ⟨w.heap.size + 1, 3, none⟩ (.int .i64 0)) t' s' v st := by
  refine ⟨(((h.bel.setCell (Nat.le_succ _) _).setCell (Nat.le_succ _) _).setCell (Nat.le_succ _) _).setCell (Nat.le_succ _) _, ?_, ?_, ?_⟩
  · simp only [Below.heap_setCell _ ⟨w.heap.size + 1, _, none⟩ _ w.heap.size (Nat.ne_of_lt (Nat.lt_succ_self _))]
    exact h.res
  · exact block_set (block_set (block_set (block_set h.top)))
  · obtain ⟨g, cap, cur, T, hv, hg, hh, r⟩ := h.own
    refine ⟨g, cap, cur, T, hv, hg, ?_, r⟩
    have hne : g ≠ w.heap.size + 1 := by omega
    simp only [Below.heap_setCell _ ⟨w.heap.size + 1, _, none⟩ _ g hne]
    exact hh

/-- The variable 'top' in a later world. -/
theorem top_cells {w wr : World} {t s : Int} {v : Value} {st : List (Nat × Bool)} (h : Is w wr t s v st) :
    wr.cell? ⟨w.heap.size + 1, 0, none⟩ = some (.int .u64 t) ∧ wr.cell? ⟨w.heap.size + 1, 1, none⟩ = some (.int .i64 s) ∧ wr.cell? ⟨w.heap.size + 1, 2, none⟩ = some (.int .i64 0) ∧ wr.cell? ⟨w.heap.size + 1, 3, none⟩ = some (.int .i64 0) ∧
    wr.frozen? ⟨w.heap.size + 1, 0, none⟩ = false ∧ wr.frozen? ⟨w.heap.size + 1, 1, none⟩ = false ∧ wr.frozen? ⟨w.heap.size + 1, 2, none⟩ = false ∧ wr.frozen? ⟨w.heap.size + 1, 3, none⟩ = false ∧ w.heap.size + 1 < wr.heap.size := by
  refine ⟨?_, ?_, ?_, ?_, frozen_of_row _ _ _ _ _ h.top, frozen_of_row _ _ _ _ _ h.top, frozen_of_row _ _ _ _ _ h.top, frozen_of_row _ _ _ _ _ h.top, lt_of_block h.top⟩ <;> (rw [cell_of_row _ _ _ _ _ _ h.top]; rfl)

set_option maxRecDepth 100000 in
set_option maxHeartbeats 1000000 in
theorem any (b off len cap : Nat) (z : Nat → Int) (w : World) (hlen : len ≤ 65536) (hm : cap ≤ 9223372036854775807) (hcap : len ≤ cap) (hb : b < w.heap.size)
    (hc : ∀ j, j < len → w.cell? ⟨b, off + j, none⟩ = some (.int .u8 (z j))) (hz : ∀ j, 0 ≤ z j ∧ z j < 256) :
    Calls Yba.prog 12 #[.slice (some ⟨b, off, none⟩) len cap] w fun e w' => Post len e ∧ Below w.heap.size w w' := by
  go_enter Yba.func12, Yba.ntmps12
  go_wp2
  go_loopw [6, 7] (fun v p wr => ∃ k : Nat, p = .int .i64 k ∧ Head w len v k wr) (fun _ p _ => len - (intOf p).toNat)
  case atStart => exact ⟨0, rfl, start w len⟩
  case round =>
    obtain ⟨p, rfl, t, s, st, hI, hN, hSl, hS⟩ := hrel
    have hlim := hN.lim
    have hliml := hN.lim_le
    obtain ⟨g, c6, cur, T, rfl, hg6, hh6, hn6, hm6, hs6, hf6⟩ := hI.own
    have HH : Hid (wr.heap[g]? = some (.cells cur T (0, 0)) ∧ cur.size = c6 * 2 ∧ cur.toList.take (st.length * 2) = flat st.reverse) := ⟨hh6, hs6, hf6⟩
    clear hh6 hs6 hf6
    go_upto_if 18 with fail
    go_cut [8] (fun l wx => l = .int .i64 (lim len st) ∧ wx = wr)
    case first =>
      cases st with
      | nil =>
        go_wp2
        go_meet
        case rel => exact ⟨rfl, rfl⟩
      | cons x r =>
        obtain ⟨e, i⟩ := x
        obtain ⟨g', c', hv, q1, q2, q3, q4⟩ := hI.topCells
        simp only [List.length_cons, Value.slice.injEq, Option.some.injEq, Addr.mk.injEq, and_true, true_and] at hv
        obtain ⟨rfl, rfl⟩ := hv
        unfold maxLen at q2
        simp only [List.length_cons]
        go_wp2
        go_meet
        case rel => exact ⟨rfl, rfl⟩
    case rest =>
      obtain ⟨rfl, rfl⟩ := hcut
      generalize hq : lim len st = q at *
      have Hq : Hid (lim len st = q) := hq
      clear hq
      by_cases hpc : cap = p
      · have hqp : q = p := by omega
        subst hqp
        go_wp2_with fail
        refine (Hdr.empty _ _ _).mono ?_
        rintro e w1 ⟨hP, hb1⟩
        have hI1 := hI.later hb1
        rcases hP with ⟨k, rfl⟩ | ⟨t', c, s', l, rfl, ht1, ht2, hs1, hs2, hl1, hl2⟩
        · obtain ⟨r0, r1, r2, r3, f0, f1, f2, f3, hsz⟩ := res_cells hI1
          go_wp2
          refine bodyPost_ret (v := .tuple #[.agg #[.int .u64 0, .int .i64 0, .int .i64 0, .int .i64 0], .iface 51 (.int .u8 k)]) (by simp [results, Yba.results12, go_sem, hsz, r0, r1, r2, r3]) rfl ⟨.inl ⟨k, rfl⟩, ?_⟩
          exact ((((hI1.bel.setCell (Nat.le_refl _) _).setCell (Nat.le_refl _) _).setCell (Nat.le_refl _) _).setCell (Nat.le_refl _) _).alloc (by simp; omega) _
        · exact absurd hs2 (by omega)
      · go_wp2_with fail
        refine (hdr_at b off len cap z w _ p q hlim hliml hlen hm hcap hb hc hz hI.bel).mono ?_
        rintro e w1 ⟨hP, hb1⟩
        have hI1 := hI.later hb1
        rcases hP with ⟨k, rfl⟩ | ⟨t', c, s', l, rfl, ht1, ht2, hs1, hs2, hl1, hl2⟩
        · obtain ⟨r0, r1, r2, r3, f0, f1, f2, f3, hsz⟩ := res_cells hI1
          go_wp2
          refine bodyPost_ret (v := .tuple #[.agg #[.int .u64 0, .int .i64 0, .int .i64 0, .int .i64 0], .iface 51 (.int .u8 k)]) (by simp [results, Yba.results12, go_sem, hsz, r0, r1, r2, r3]) rfl ⟨.inl ⟨k, rfl⟩, ?_⟩
          exact ((((hI1.bel.setCell (Nat.le_refl _) _).setCell (Nat.le_refl _) _).setCell (Nat.le_refl _) _).setCell (Nat.le_refl _) _).alloc (by simp; omega) _
        · obtain ⟨sn, rfl⟩ := Int.eq_ofNat_of_zero_le (show 0 ≤ s' by omega)
          go_upto_if 40 with fail
          go_cut [] (fun wx => ∃ t2 s2, Is w wx t2 s2 (.slice (some ⟨g, 0, none⟩) st.length c6) st ∧ wx.heap[w1.heap.size]? = some (.cells #[.int .u64 t', .bool c, .int .i64 sn, .int .i64 l] 48 (0, 0)) ∧ 1 ≤ t2 ∧ t2 < 18446744073709551616 ∧ 2 ≤ s2 ∧ s2 ≤ p + sn)
          case first =>
            cases st with
            | nil =>
              obtain ⟨r0, r1, r2, r3, f0, f1, f2, f3, hsz⟩ := top_cells hI1
              go_wp2
              go_meet
              case rel =>
                have hB := Below.alloc (Below.refl w1.heap.size ((((w1.setCell ⟨w.heap.size + 1, 0, none⟩ (.int .u64 t')).setCell ⟨w.heap.size + 1, 1, none⟩ (.int .i64 sn)).setCell ⟨w.heap.size + 1, 2, none⟩ (.int .i64 0)).setCell ⟨w.heap.size + 1, 3, none⟩ (.int .i64 0))) (by simp) (.cells #[.int .u64 t', .bool c, .int .i64 sn, .int .i64 l] 48)
                refine ⟨t', sn, (setTop hI1 t' sn).later (by simpa using hB), ?_, ht1, ht2, hs1, by omega⟩
                have := Go.heap_alloc_new ((((w1.setCell ⟨w.heap.size + 1, 0, none⟩ (.int .u64 t')).setCell ⟨w.heap.size + 1, 1, none⟩ (.int .i64 sn)).setCell ⟨w.heap.size + 1, 2, none⟩ (.int .i64 0)).setCell ⟨w.heap.size + 1, 3, none⟩ (.int .i64 0)) (.cells #[.int .u64 t', .bool c, .int .i64 sn, .int .i64 l] 48)
                simpa using this
            | cons x r =>
              have e1 : ((((x :: r).length : Nat) : Int) == 0) = false := beq_eq_false_iff_ne.2 (by simp; omega)
              go_wp2
              go_meet
              case rel =>
                rcases hS with ⟨h, _⟩ | ⟨_, h1, h2, h3, h4⟩
                · cases h
                · exact ⟨t, s, hI1.later ((Below.refl _ _).alloc (Nat.le_refl _) _), Go.heap_alloc_new _ _, h1, h2, h3, by omega⟩
          case rest =>
            obtain ⟨t2, s2, hI2, hh2, k1, k2, k3, k4⟩ := hcut
            clear hI1 hI HH hb1 hS
            have y0 : wc.cell? ⟨w1.heap.size, 0, none⟩ = some (.int .u64 t') := by rw [cell_of_row _ _ _ _ _ _ hh2]; rfl
            have y1 : wc.cell? ⟨w1.heap.size, 1, none⟩ = some (.bool c) := by rw [cell_of_row _ _ _ _ _ _ hh2]; rfl
            have y2 : wc.cell? ⟨w1.heap.size, 2, none⟩ = some (.int .i64 sn) := by rw [cell_of_row _ _ _ _ _ _ hh2]; rfl
            have y3 : wc.cell? ⟨w1.heap.size, 3, none⟩ = some (.int .i64 l) := by rw [cell_of_row _ _ _ _ _ _ hh2]; rfl
            clear hh2
            go_upto_block 2 with fail
            go_cut [6, 7] (fun v p' wx => ∃ (k : Nat) (st' : List (Nat × Bool)), p' = .int .i64 k ∧ Is w wx t2 s2 v st' ∧ Nested len k st' ∧ st' ≠ [] ∧ p + sn ≤ k ∧ st'.length ≤ k)
            case first =>
              obtain ⟨g', c', cur, T, hv, hg7, hh7, hn7, hm7, hs7, hf7⟩ := hI2.own
              simp only [Value.slice.injEq, Option.some.injEq, Addr.mk.injEq, and_true, true_and] at hv
              obtain ⟨rfl, rfl⟩ := hv
              have HH : Hid (wc.heap[g]? = some (.cells cur T (0, 0)) ∧ cur.size = c6 * 2 ∧ cur.toList.take (st.length * 2) = flat st.reverse) := ⟨hh7, hs7, hf7⟩
              have hgl := lt_of_block hh7
              clear hh7 hs7 hf7
              obtain ⟨i0, hi, hz0, hz1, hz2⟩ := info_parts info54
              have hst : st.length ≤ 65536 := by omega
              rcases hl1 with rfl | hl0
              · go_wp2_with (at_builtin; refine wpList_append_tag _ rfl (.tmp 66) (.tmp 69) 56 rfl 54 i0 _ 2 16 Yba.underlying56 hi hz0 hz1 hz2 rfl g st.length c6 cur T rfl ((Below.heap_alloc _ _ _ hgl).trans HH.out.1) hn7 hm7 HH.out.2.1 ⟨wc.heap.size, 0, none⟩ 1 1 [.int .i64 q, .bool true] rfl rfl (World.news_of_block (Go.heap_alloc_new wc _)) (one2 _ _) (by unfold maxLen; omega) (by omega) ?_; intro g' cap' cur' T' w2 a1 a2 a3 a4 a5 a6 a7)
                go_meet
                case rel =>
                  refine ⟨p + sn, (q, true) :: st, by go_num, Is.push (hI2.later ((Below.refl _ _).alloc (Nat.le_refl _) _)) hg7 HH.out.2.2 a1 a2 a3 a4 a5 a6 a7, ⟨by omega, hN.to (by rw [Hq.out]; exact Nat.le_refl _)⟩, by simp, Nat.le_refl _, by simp; omega⟩
              · obtain ⟨ln, rfl⟩ := Int.eq_ofNat_of_zero_le hl0
                have e1 : ((ln : Int) == -1) = false := beq_eq_false_iff_ne.2 (by omega)
                cases c with
                | true =>
                  go_wp2_with (at_builtin; refine wpList_append_tag _ rfl (.tmp 74) (.tmp 80) 56 rfl 54 i0 _ 2 16 Yba.underlying56 hi hz0 hz1 hz2 rfl g st.length c6 cur T rfl ((Below.heap_alloc _ _ _ hgl).trans HH.out.1) hn7 hm7 HH.out.2.1 ⟨wc.heap.size, 0, none⟩ 1 1 [.int .i64 (p + sn + ln), .bool false] rfl rfl (World.news_of_block (Go.heap_alloc_new wc _)) (one2 _ _) (by unfold maxLen; omega) (by omega) ?_; intro g' cap' cur' T' w2 a1 a2 a3 a4 a5 a6 a7)
                  go_meet
                  case rel =>
                    refine ⟨p + sn, (p + sn + ln, false) :: st, by go_num, Is.push (hI2.later ((Below.refl _ _).alloc (Nat.le_refl _) _)) hg7 HH.out.2.2 a1 a2 a3 a4 a5 (by rw [a6]; simp [pair]) a7, ⟨by omega, hN.to (by rw [Hq.out]; omega)⟩, by simp, Nat.le_refl _, by simp; omega⟩
                | false =>
                  cases st with
                  | nil =>
                    obtain ⟨x0, x1, x2, x3, f0, f1, f2, f3, hsz1⟩ := top_cells hI2
                    obtain ⟨r0, r1, r2, r3, g0, g1, g2, g3, hsz⟩ := res_cells hI2
                    go_wp2
                    refine bodyPost_ret (v := .tuple #[.agg #[.int .u64 t2, .int .i64 s2, .int .i64 (p + sn + ln), .int .i64 (p + sn + ln)], .nilIface]) (by simp [results, Yba.results12, go_sem, r0, r1, r2, r3]) rfl ⟨.inr ?_, ?_⟩
                    · obtain ⟨s3, rfl⟩ := Int.eq_ofNat_of_zero_le (show 0 ≤ s2 by omega)
                      exact ⟨t2, s3, p + sn + ln, p + sn + ln, by simp, k1, k2, by omega, by omega, by omega, by omega⟩
                    · exact (((((hI2.bel.setCell (Nat.le_succ _) _).setCell (Nat.le_succ _) _).setCell (Nat.le_refl _) _).setCell (Nat.le_refl _) _).setCell (Nat.le_refl _) _).setCell (Nat.le_refl _) _
                  | cons x r =>
                    have e2 : ((((x :: r).length : Nat) : Int) == 0) = false := beq_eq_false_iff_ne.2 (by simp; omega)
                    go_wp2
                    go_meet
                    case rel => exact ⟨p + sn + ln, x :: r, by go_num, hI2, hN.to (by rw [Hq.out]; omega), by simp, by omega, by omega⟩
            case rest =>
              obtain ⟨k, st', rfl, hI3, hN3, hne, hpk, hSl'⟩ := hcut
              clear hI2 y0 y1 y2 y3 hN hSl
              go_wp2
              go_loopw [6, 7] (fun v p' wx => ∃ (k : Nat) (st' : List (Nat × Bool)), p' = .int .i64 k ∧ Is w wx t2 s2 v st' ∧ Nested len k st' ∧ st' ≠ [] ∧ p + sn ≤ k ∧ st'.length ≤ k) (fun v _ _ => lenOf v)
              case atStart => exact ⟨k, st', rfl, hI3, hN3, hne, hpk, hSl'⟩
              case round =>
                clear hI3 hN3 hne hpk hSl'
                obtain ⟨k, st', rfl, hI3, hN3, hne, hpk, hSl'⟩ := hrel
                match st', hne with
                | (e, i) :: r, _ =>
                obtain ⟨g', c', rfl, q1, q2, q3, q4⟩ := hI3.topCells
                have hek := hN3.1
                have hel := hN3.2.lim
                have hell := hN3.2.lim_le
                have hI4 := hI3.pop
                unfold maxLen at q2
                obtain ⟨x0, x1, x2, x3, f0, f1, f2, f3, hsz1⟩ := top_cells hI3
                obtain ⟨r0, r1, r2, r3, g0, g1, g2, g3, hsz⟩ := res_cells hI3
                generalize hn : r.length = n at *
                have HN : Hid (r.length = n) := hn
                clear hn
                have hnk : n < k := by simp only [List.length_cons] at hSl'; have := HN.out; omega
                have fin : ∀ (k' : Nat), k ≤ k' → k' ≤ len → Post len (.returned (.tuple #[.agg #[.int .u64 t2, .int .i64 s2, .int .i64 k, .int .i64 k'], .nilIface])) := by
                  intro k' h1 h2
                  obtain ⟨s3, rfl⟩ := Int.eq_ofNat_of_zero_le (show 0 ≤ s2 by omega)
                  exact .inr ⟨t2, s3, k, k', rfl, k1, k2, by omega, by omega, h1, h2⟩
                have Hfin : Hid (∀ (k' : Nat), k ≤ k' → k' ≤ len → Post len (.returned (.tuple #[.agg #[.int .u64 t2, .int .i64 s2, .int .i64 k, .int .i64 k'], .nilIface]))) := fin
                clear fin
                have meas : len - k < len - p := by omega
                have HM : Hid (len - k < len - p) := meas
                clear meas
                cases i with
                | true =>
                  by_cases h2 : (e : Int) - k < 2
                  · go_wp2
                    refine bodyPost_ret (v := .tuple #[.agg #[.int .u64 0, .int .i64 0, .int .i64 0, .int .i64 0], .iface 51 (.int .u8 3)]) (by simp [results, Yba.results12, go_sem, hsz, r0, r1, r2, r3]) rfl ⟨.inl ⟨3, rfl⟩, ?_⟩
                    exact ((((hI4.bel.setCell (Nat.le_refl _) _).setCell (Nat.le_refl _) _).setCell (Nat.le_refl _) _).setCell (Nat.le_refl _) _).alloc (by simp; omega) _
                  have b0 : wr.cell? ⟨b, off + k, none⟩ = some (.int .u8 (z k)) := (hI4.bel.cell (p := ⟨b, off + k, none⟩) hb).trans (hc k (by omega))
                  have b1 : wr.cell? ⟨b, off + (k + 1), none⟩ = some (.int .u8 (z (k + 1))) := (hI4.bel.cell (p := ⟨b, off + (k + 1), none⟩) hb).trans (hc (k + 1) (by omega))
                  have hbw : b < wr.heap.size := by have := hI4.bel.size; omega
                  have kl : (k : Int) < (len : Int) := by omega
                  have kl1 : (k : Int) + 1 < (len : Int) := by omega
                  by_cases z0 : (z k != 0) = true
                  · go_wp2
                    go_roundw
                    case rel => exact ⟨k, rfl, t2, s2, (e, true) :: r, hI3.later ((Below.refl _ _).alloc (Nat.le_refl _) _), hN3, hSl', .inr ⟨by simp, k1, k2, k3, by omega⟩⟩
                    case measure => simpa [intOf] using HM.out
                  have z0 : (z k != 0) = false := by simpa using z0
                  by_cases z1 : (z (k + 1) != 0) = true
                  · go_wp2
                    go_roundw
                    case rel => exact ⟨k, rfl, t2, s2, (e, true) :: r, hI3.later ((Below.refl _ _).alloc (Nat.le_refl _) _), hN3, hSl', .inr ⟨by simp, k1, k2, k3, by omega⟩⟩
                    case measure => simpa [intOf] using HM.out
                  have z1 : (z (k + 1) != 0) = false := by simpa using z1
                  by_cases hn0 : n = 0
                  · have e2 : ((n : Int) == 0) = true := beq_iff_eq.2 (by omega)
                    have HN0 : Hid (n = 0) := hn0
                    clear hn0
                    go_wp2
                    refine bodyPost_ret (v := .tuple #[.agg #[.int .u64 t2, .int .i64 s2, .int .i64 k, .int .i64 (k + 2)], .nilIface]) (by simp [results, Yba.results12, go_sem, hsz, r0, r1, r2, r3]) rfl ⟨by have := Hfin.out (k + 2) (by omega) (by omega); simpa using this, ?_⟩
                    exact ((((((hI4.bel.setCell (Nat.le_succ _) _).setCell (Nat.le_succ _) _).setCell (Nat.le_refl _) _).setCell (Nat.le_refl _) _).setCell (Nat.le_refl _) _).setCell (Nat.le_refl _) _).alloc (by simp; omega) _
                  · have e2 : ((n : Int) == 0) = false := beq_eq_false_iff_ne.2 (by omega)
                    go_wp2
                    go_roundw
                    case rel => exact ⟨k + 2, r, by go_num, hI4.later ((Below.refl _ _).alloc (Nat.le_refl _) _), hN3.2.to (by omega), fun h => by rw [h] at HN; exact hn0 HN.out.symm, by omega, by have := HN.out; omega⟩
                    case measure => simp [lenOf]
                | false =>
                  by_cases hlt : k < e
                  · go_wp2
                    go_roundw
                    case rel => exact ⟨k, rfl, t2, s2, (e, false) :: r, hI3.later ((Below.refl _ _).alloc (Nat.le_refl _) _), hN3, hSl', .inr ⟨by simp, k1, k2, k3, by omega⟩⟩
                    case measure => simpa [intOf] using HM.out
                  · have hke : k = e := by omega
                    subst hke
                    by_cases hn0 : n = 0
                    · have e2 : ((n : Int) == 0) = true := beq_iff_eq.2 (by omega)
                      have HN0 : Hid (n = 0) := hn0
                      clear hn0
                      go_wp2
                      refine bodyPost_ret (v := .tuple #[.agg #[.int .u64 t2, .int .i64 s2, .int .i64 k, .int .i64 k], .nilIface]) (by simp [results, Yba.results12, go_sem, hsz, r0, r1, r2, r3]) rfl ⟨Hfin.out k (Nat.le_refl _) (by omega), ?_⟩
                      exact ((((((hI4.bel.setCell (Nat.le_succ _) _).setCell (Nat.le_succ _) _).setCell (Nat.le_refl _) _).setCell (Nat.le_refl _) _).setCell (Nat.le_refl _) _).setCell (Nat.le_refl _) _).alloc (by simp; omega) _
                    · have e2 : ((n : Int) == 0) = false := beq_eq_false_iff_ne.2 (by omega)
                      go_wp2
                      go_roundw
                      case rel => exact ⟨k, r, rfl, hI4.later ((Below.refl _ _).alloc (Nat.le_refl _) _), hN3.2.to hel, fun h => by rw [h] at HN; exact hn0 HN.out.symm, hpk, by have := HN.out; omega⟩
                      case measure => simp [lenOf]
end Go.Proofs.Ybulkabpe.Walk
