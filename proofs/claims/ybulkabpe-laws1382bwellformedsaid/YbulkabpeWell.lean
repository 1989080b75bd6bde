import Derived.Test.YbulkabpeElemB
import Derived.Test.YbulkabpeEnc
import Derived.Test.YbulkabpeBits
import Derived.Test.YbulkabpeElem
import Derived.Laws.AppendOwnNone
namespace Go.Proofs.Ybulkabpe.Well
open Go.RowKit Go.Proofs.Ybulkabpe.Mem Go.Proofs.Ybulkabpe.Enc
set_option linter.unusedVariables false
set_option linter.unusedSimpArgs false

theorem info5 : (Yba.prog.info? 5).map (fun i => (i.zero, i.size, i.bytes)) = some (some (.int .u8 0), 1, 1) := by kernel_rfl

theorem eql_nil (w : World) : (binOp .eql 23 (.slice none 0 0) (.slice none 0 0)).run Yba.prog w = .ok (.bool true) w := by kernel_rfl

/-- What is known of the items: item i: its tag T i, its body (A i, L i, C i) with the octets Z i. -/
structure Items (w : World) (ib io N : Nat) (T : Nat → Int) (A : Nat → Option Addr) (L C : Nat → Nat) (Z : Nat → Nat → Int) : Prop where
  lt : 0 < N → ib < w.heap.size
  tag : ∀ i, i < N → w.cell? ⟨ib, io + i * 2, none⟩ = some (.int .u8 (T i))
  body : ∀ i, i < N → w.cell? ⟨ib, io + i * 2 + 1, none⟩ = some (.slice (A i) (L i) (C i))
  cap : ∀ i, i < N → L i ≤ C i ∧ C i ≤ 9223372036854775807
  atNil : ∀ i, i < N → A i = none → L i = 0 ∧ C i = 0
  atSome : ∀ i, i < N → 0 < L i → ∃ bb oo, A i = some ⟨bb, oo, none⟩ ∧ bb < w.heap.size ∧ ∀ j, j < L i → w.cell? ⟨bb, oo + j, none⟩ = some (.int .u8 (Z i j))
  tagR : ∀ i, i < N → 0 ≤ T i ∧ T i < 256

theorem news2 (w : World) (o : Obj) (cs : Array Value) (t : TypeId) : ∀ j u, cs.toList[j]? = some u → ((w.alloc o).alloc (.cells cs t)).cell? ((⟨w.heap.size + 1, 0, none⟩ : Addr).add j) = some u := by
  have h := Go.heap_alloc_new (w.alloc o) (.cells cs t)
  rw [show (w.alloc o).heap.size = w.heap.size + 1 from by simp] at h
  exact World.news_of_block h
theorem src_any {w : World} {ad : Addr} {n : Nat} {f : Nat → Int} (h : 0 < n → ∀ j u, (((List.range n).map f).map (Value.int .u8))[j]? = some u → w.cell? (ad.add j) = some u) :
    ∀ j u, (((List.range n).map f).map (Value.int .u8))[j]? = some u → w.cell? (ad.add j) = some u := by
  intro j u hu
  rcases Nat.eq_zero_or_pos n with h0 | h0
  · subst h0; simp at hu
  · exact h h0 j u hu
theorem u8s_one (l : List Int) : ∀ u ∈ l.map (Value.int .u8), u.oneCell' = true := by
  intro u hu
  rw [List.mem_map] at hu
  obtain ⟨x, _, rfl⟩ := hu
  rfl

/-- The slice that was built, as the rest of the law sees it. -/
theorem built {w wc : World} {v : Value} {l : List Int} (h : wc.ownsRow w.heap.size 5 1 v l.length (l.map (Value.int .u8))) :
    ∃ (a0 : Option Addr) (g c : Nat), v = .slice a0 l.length c ∧ l.length ≤ c ∧ c ≤ 9223372036854775807 ∧ (0 < l.length → a0 = some ⟨g, 0, none⟩ ∧ g < wc.heap.size) ∧ ∀ j, j < l.length → wc.cell? ⟨g, j, none⟩ = some (.int .u8 (l[j]?.getD 0)) := by
  obtain ⟨_, h2⟩ := h
  rcases h2 with ⟨rfl, h0⟩ | ⟨g, cap, cur, rfl, hb, hh, h3, h4, h5, h6⟩
  · exact ⟨none, 0, 0, by rw [h0], by omega, by omega, fun h => by omega, fun j hj => by omega⟩
  · refine ⟨some ⟨g, 0, none⟩, g, cap, rfl, h3, by unfold maxLen at h4; omega, fun _ => ⟨rfl, lt_of_block hh⟩, fun j hj => ?_⟩
    rw [cell_of_row _ _ _ _ _ _ hh, ← Array.getElem?_toList]
    have : (cur.toList.take (l.length * 1))[j]? = some (.int .u8 (l[j]?.getD 0)) := by
      rw [h6, List.getElem?_map, List.getElem?_eq_getElem hj]; rfl
    rw [List.getElem?_take] at this
    rwa [if_pos (by omega)] at this

set_option maxRecDepth 100000 in
set_option maxHeartbeats 2000000 in
theorem walk (ia : Option Addr) (ib io N cap : Nat) (T : Nat → Int) (A : Nat → Option Addr) (L C : Nat → Nat) (Z : Nat → Nat → Int) (w : World) (hI : Items w ib io N T A L C Z) (hia : 0 < N → ia = some ⟨ib, io, none⟩) :
    Calls Yba.prog 3 #[.slice ia N cap] w fun e w' => e = .returned (.bool true) ∧ Below w.heap.size w w' := by
  by_cases hbig : (256 : Int) < N
  · go_enter Yba.func3, Yba.ntmps3
    go_wp2
    go_ret
    exact ⟨rfl, Below.refl _ _⟩
  obtain ⟨i0, hi, hz0, hz1, hz2⟩ := info_parts info5
  go_enter Yba.func3, Yba.ntmps3
  go_upto_block 0 with fail
  go_cut [3] (fun v wx => wx.ownsRow w.heap.size 5 1 v (enc T L Z N).length ((enc T L Z N).map (Value.int .u8)) ∧ Below w.heap.size w wx)
  case first =>
    go_wp2
    go_loopw [3, 20] (fun v i wr => ∃ k : Nat, k ≤ N ∧ i = .int .i64 k ∧ wr.ownsRow w.heap.size 5 1 v (enc T L Z k).length ((enc T L Z k).map (Value.int .u8)) ∧ Below w.heap.size w wr) (fun _ i _ => N - (intOf i).toNat)
    case atStart => exact ⟨0, Nat.zero_le _, rfl, World.ownsRow_nil _ _ _ _, Below.refl _ _⟩
    case round =>
      obtain ⟨k, hk, rfl, hown, hbel⟩ := hrel
      by_cases hlt : k < N
      · obtain rfl := hia (by omega)
        have hib := hI.lt (by omega)
        have c0 : wr.cell? ⟨ib, io + k * 2, none⟩ = some (.int .u8 (T k)) := (hbel.cell (p := ⟨ib, io + k * 2, none⟩) hib).trans (hI.tag k hlt)
        have c1 : wr.cell? ⟨ib, io + k * 2 + 1, none⟩ = some (.slice (A k) (L k) (C k)) := (hbel.cell (p := ⟨ib, io + k * 2 + 1, none⟩) hib).trans (hI.body k hlt)
        obtain ⟨hT0, hT1⟩ := hI.tagR k hlt
        have hle := enc_le (T := T) (L := L) (Z := Z) k
        obtain ⟨hLC, hCm⟩ := hI.cap k hlt
        obtain ⟨n, hn, hn1, hn2⟩ : ∃ n : Nat, n = min (L k) 127 ∧ n ≤ 127 ∧ n ≤ L k := ⟨_, rfl, by omega, by omega⟩
        have Hn : Hid (n = min (L k) 127) := hn
        clear hn
        have hb5 : ∀ (a : Option Addr) (wx : World), Calls Yba.prog 5 #[.slice a (L k) (C k)] wx fun e w' => e = .returned (.int .i64 (n : Int)) ∧ w' = wx := by
          intro a wx
          rw [Hn.out]; exact Small.blen _ _ _ _
        have Hb5 : Hid (∀ (a : Option Addr) (wx : World), Calls Yba.prog 5 #[.slice a (L k) (C k)] wx fun e w' => e = .returned (.int .i64 (n : Int)) ∧ w' = wx) := hb5
        clear hb5
        have hsz := hbel.size
        cases hA : A k with
        | none =>
          obtain ⟨hL, hC⟩ := hI.atNil k hlt hA
          rw [hA, hL, hC] at c1
          obtain rfl : n = 0 := by omega
          have Hb6 : Hid (∀ (a : Option Addr) (wx : World), Calls Yba.prog 5 #[.slice a 0 0] wx fun e w' => e = .returned (.int .i64 ((0 : Nat) : Int)) ∧ w' = wx) := by
            have := Hb5.out
            rw [hL, hC] at this
            exact this
          have HL : Hid (L k = 0) := hL
          clear hL hC hLC hCm hn2 Hb5
          go_upto_region 9 with (first
            | (go_at_call 5; refine (Hb6.out _ _).mono ?_; rintro e w' ⟨rfl, rfl⟩)
            | (go_at_call 6; refine (Small.btag _ hT0 hT1 _).mono ?_; rintro e w' ⟨rfl, rfl⟩)
            | (at_builtin; refine wpList_append_own _ rfl (.tmp 27) (.tmp 33) 23 rfl w.heap.size 5 i0 (.int .u8 0) 1 1 Yba.underlying23 hi hz0 hz1 hz2 rfl (by decide) _ _ _ rfl ((hown.alloc _).alloc _) ⟨wr.heap.size + 1, 0, none⟩ 2 2 ([1 + T k % 30, ((0 : Nat) : Int)].map (Value.int .u8)) rfl rfl (news2 wr _ _ _) (u8s_one _) (by unfold maxLen; omega) (by omega) (by simp; omega) ?_; intro v1 w1 hown1 hgrow1 hnil1))
          have hblk := hown.lt
          have hit : w1.heap[wr.heap.size]? = some (.cells #[.int .u8 (T k), .slice none 0 0] 25 (0, 0)) := by
            refine (hgrow1.block _ (by simp; omega) ?_).trans ((Below.heap_alloc _ _ _ (by simp)).trans (Go.heap_alloc_new wr _))
            intro e
            have := hblk _ e.symm
            omega
          have hbel1 : Below w.heap.size w w1 := ((hbel.alloc hsz _).alloc (by simp; omega) _).grown hgrow1 (by simp; omega) (fun q hq => (hblk q hq).1)
          have y1 : w1.cell? ⟨wr.heap.size, 1, none⟩ = some (.slice none 0 0) := by rw [cell_of_row _ _ _ _ _ _ hit]; rfl
          clear hit hgrow1 hblk c0 c1 hnil1 hown hA
          have hsz1 := hbel1.size
          go_wp2_with (at_builtin; refine wpList_append_own_none rfl (.tmp 35) (.tmp 39) 23 rfl w.heap.size 5 i0 1 Yba.underlying23 hi _ _ _ rfl hown1 rfl ?_)
          go_roundw
          case rel =>
            refine ⟨k + 1, by omega, by go_num, ?_, hbel1⟩
            have e1 : (enc T L Z (k + 1)).length = (enc T L Z k).length + 2 := by rw [enc_length_succ, HL.out]; rfl
            have e2 : (enc T L Z (k + 1)).map (Value.int .u8) = (enc T L Z k).map (Value.int .u8) ++ [1 + T k % 30, ((0 : Nat) : Int)].map (Value.int .u8) := by
              rw [enc_succ, List.map_append]
              congr 1
              unfold el
              rw [HL.out]; rfl
            rw [e1, e2]
            exact hown1
          case measure => simp [intOf]; omega
        | some ad =>
          rw [hA] at c1
          go_upto_region 9 with (first
            | (go_at_call 5; refine (Hb5.out _ _).mono ?_; rintro e w' ⟨rfl, rfl⟩)
            | (go_at_call 6; refine (Small.btag _ hT0 hT1 _).mono ?_; rintro e w' ⟨rfl, rfl⟩)
            | (at_builtin; refine wpList_append_own _ rfl (.tmp 27) (.tmp 33) 23 rfl w.heap.size 5 i0 (.int .u8 0) 1 1 Yba.underlying23 hi hz0 hz1 hz2 rfl (by decide) _ _ _ rfl ((hown.alloc _).alloc _) ⟨wr.heap.size + 1, 0, none⟩ 2 2 ([1 + T k % 30, (n : Int)].map (Value.int .u8)) rfl rfl (news2 wr _ _ _) (u8s_one _) (by unfold maxLen; omega) (by omega) (by simp; omega) ?_; intro v1 w1 hown1 hgrow1 hnil1))
          have hblk := hown.lt
          have hit : w1.heap[wr.heap.size]? = some (.cells #[.int .u8 (T k), .slice (some ad) (L k) (C k)] 25 (0, 0)) := by
            refine (hgrow1.block _ (by simp; omega) ?_).trans ((Below.heap_alloc _ _ _ (by simp)).trans (Go.heap_alloc_new wr _))
            intro e
            have := hblk _ e.symm
            omega
          have hbel1 : Below w.heap.size w w1 := ((hbel.alloc hsz _).alloc (by simp; omega) _).grown hgrow1 (by simp; omega) (fun q hq => (hblk q hq).1)
          have y1 : w1.cell? ⟨wr.heap.size, 1, none⟩ = some (.slice (some ad) (L k) (C k)) := by rw [cell_of_row _ _ _ _ _ _ hit]; rfl
          clear hit hgrow1 hblk c0 c1 hnil1 hown
          have hsz1 := hbel1.size
          have hsrc : 0 < n → ∀ j u, (((List.range n).map (Z k)).map (Value.int .u8))[j]? = some u → w1.cell? (ad.add j) = some u := by
            intro h0 j u hu
            obtain ⟨bb, oo, hab, hbb, hcc⟩ := hI.atSome k hlt (by omega)
            rw [hA] at hab
            obtain rfl : ad = ⟨bb, oo, none⟩ := by simpa using hab
            rw [List.getElem?_map, List.getElem?_map] at hu
            have hj : j < n := by
              rcases Nat.lt_or_ge j n with h | h
              · exact h
              · rw [List.getElem?_eq_none (by simpa using h)] at hu; simp at hu
            rw [List.getElem?_range hj] at hu
            simp at hu
            subst hu
            rw [show (⟨bb, oo, none⟩ : Addr).add j = ⟨bb, oo + j, none⟩ from by unfold Addr.add; split <;> simp_all]
            exact (hbel1.cell (p := ⟨bb, oo + j, none⟩) hbb).trans (hcc j (by omega))
          have Hsrc : Hid (0 < n → ∀ j u, (((List.range n).map (Z k)).map (Value.int .u8))[j]? = some u → w1.cell? (ad.add j) = some u) := hsrc
          clear hsrc hA
          go_wp2_with (at_builtin; go_loud (refine wpList_append_own _ rfl (.tmp 35) (.tmp 39) 23 rfl w.heap.size 5 i0 (.int .u8 0) 1 1 Yba.underlying23 hi hz0 hz1 hz2 rfl (by decide) _ _ _ rfl hown1 ad n (C k) (((List.range n).map (Z k)).map (Value.int .u8)) rfl (by simp) (src_any Hsrc.out) (u8s_one _) (by unfold maxLen; omega) (by omega) hsz1 ?_); intro v2 w2 hown2 hgrow2 hnil2)
          have hblk := hown1.lt
          go_roundw
          case rel =>
            refine ⟨k + 1, by omega, by go_num, ?_, hbel1.grown hgrow2 hsz1 (fun q hq => (hblk q hq).1)⟩
            have e1 : (enc T L Z (k + 1)).length = (enc T L Z k).length + 2 + n := by rw [enc_length_succ, Hn.out]; omega
            have e2 : (enc T L Z (k + 1)).map (Value.int .u8) = (enc T L Z k).map (Value.int .u8) ++ [1 + T k % 30, (n : Int)].map (Value.int .u8) ++ ((List.range n).map (Z k)).map (Value.int .u8) := by
              rw [enc_succ, List.map_append, List.append_assoc]
              congr 1
              unfold el
              rw [← Hn.out]; rfl
            rw [e1, e2]
            exact hown2
          case measure => simp [intOf]; omega
      · have hkN : k = N := by omega
        subst hkN
        go_wp2
        go_meet
        case rel => exact ⟨hown, hbel⟩
  case rest =>
    obtain ⟨hown, hbel⟩ := hcut
    have hlenN := enc_le (T := T) (L := L) (Z := Z) N
    obtain ⟨a0, g, c, rfl, hlc, hcm, hag, hcells⟩ := built hown
    have Hst : Hid (∀ wx : World, Below w.heap.size w wx → wx.heap[wc.heap.size]? = some (.cells #[.slice a0 (enc T L Z N).length c, .nilIface] 31 (0, 0)) → Below wc.heap.size wc wx →
        ∃ (k : Nat) (ra : Option Addr), k ≤ N ∧ Value.int .i64 0 = .int .i64 k ∧ Below w.heap.size w wx ∧ wx.heap[wc.heap.size]? = some (.cells #[.slice ra ((enc T L Z N).length - (enc T L Z k).length) (c - (enc T L Z k).length), .nilIface] 31 (0, 0)) ∧
          ((enc T L Z k).length < (enc T L Z N).length → ra = some ⟨g, (enc T L Z k).length, none⟩) ∧ ∀ j, j < (enc T L Z N).length → wx.cell? ⟨g, j, none⟩ = some (.int .u8 (oct T L Z N j))) := by
      intro wx h1 h2 h3
      refine ⟨0, a0, Nat.zero_le _, rfl, h1, h2, fun h => (hag (by omega)).1, fun j hj => ?_⟩
      exact (h3.cell (p := ⟨g, j, none⟩) (hag (by omega)).2).trans (hcells j hj)
    have hgw : 0 < (enc T L Z N).length → g < wc.heap.size := fun h => (hag h).2
    have HG : Hid (0 < (enc T L Z N).length → g < wc.heap.size) := hgw
    have hsz := hbel.size
    clear hown hag hcells hgw
    generalize hlen : (enc T L Z N).length = len at *
    have HL : Hid ((enc T L Z N).length = len) := hlen
    clear hlen
    go_wp2
    have hst := Hst.out (wc.alloc (.cells #[.slice a0 len c, .nilIface] 31)) (hbel.alloc hsz _) (Go.heap_alloc_new _ _) ((Below.refl _ _).alloc (Nat.le_refl _) _)
    generalize wc.heap.size = sb at *
    have Hst' := (show Hid _ from hst)
    clear hst Hst
    go_loopw [46] (fun i wr => ∃ (k : Nat) (ra : Option Addr), k ≤ N ∧ i = .int .i64 k ∧ Below w.heap.size w wr ∧ wr.heap[sb]? = some (.cells #[.slice ra (len - (enc T L Z k).length) (c - (enc T L Z k).length), .nilIface] 31 (0, 0)) ∧
          ((enc T L Z k).length < len → ra = some ⟨g, (enc T L Z k).length, none⟩) ∧ ∀ j, j < len → wr.cell? ⟨g, j, none⟩ = some (.int .u8 (oct T L Z N j))) (fun i _ => N - (intOf i).toNat)
    case atStart => exact Hst'.out
    case round =>
      clear Hst'
      obtain ⟨k, ra, hk, rfl, hbel', hs, hra, hcells⟩ := hrel
      by_cases hlt : k < N
      · obtain rfl := hia (by omega)
        have hib := hI.lt (by omega)
        have c0 : wr.cell? ⟨ib, io + k * 2, none⟩ = some (.int .u8 (T k)) := (hbel'.cell (p := ⟨ib, io + k * 2, none⟩) hib).trans (hI.tag k hlt)
        have c1 : wr.cell? ⟨ib, io + k * 2 + 1, none⟩ = some (.slice (A k) (L k) (C k)) := (hbel'.cell (p := ⟨ib, io + k * 2 + 1, none⟩) hib).trans (hI.body k hlt)
        obtain ⟨hT0, hT1⟩ := hI.tagR k hlt
        obtain ⟨hLC, hCm⟩ := hI.cap k hlt
        obtain ⟨n, hn, hn1, hn2⟩ : ∃ n : Nat, n = min (L k) 127 ∧ n ≤ 127 ∧ n ≤ L k := ⟨_, rfl, by omega, by omega⟩
        have Hn : Hid (n = min (L k) 127) := hn
        clear hn
        have Hb5 : Hid (∀ (a : Option Addr) (wx : World), Calls Yba.prog 5 #[.slice a (L k) (C k)] wx fun e w' => e = .returned (.int .i64 (n : Int)) ∧ w' = wx) := by
          intro a wx
          rw [Hn.out]; exact Small.blen _ _ _ _
        have hoff : (enc T L Z (k + 1)).length = (enc T L Z k).length + (2 + n) := by rw [enc_length_succ, Hn.out]
        have hoffN : (enc T L Z (k + 1)).length ≤ len := by have := enc_mono (T := T) (L := L) (Z := Z) (show k + 1 ≤ N from hlt); rw [HL.out] at this; exact this
        obtain rfl := hra (by omega)
        have hgs : g < sb := HG.out (by omega)
        have z0 : oct T L Z N ((enc T L Z k).length + 0) = 1 + T k % 30 := oct_0 hlt
        have z1 : oct T L Z N ((enc T L Z k).length + 1) = (n : Int) := by rw [oct_1 hlt, Hn.out]
        have zb : ∀ j, j < n → oct T L Z N ((enc T L Z k).length + (2 + j)) = Z k j := fun j hj => oct_body hlt (by rw [← Hn.out]; exact hj)
        have hcall := fun (o : Obj) => ElemB.short sb g (enc T L Z k).length (len - (enc T L Z k).length) (c - (enc T L Z k).length) (fun j => oct T L Z N ((enc T L Z k).length + j)) n (wr.alloc o)
          ((Below.heap_alloc _ _ _ (lt_of_block hs)).trans hs) (by omega) (by omega) (by omega) hgs (fun j hj => ((((Below.refl wr.heap.size wr).alloc (Nat.le_refl _) o).cell (p := ⟨g, (enc T L Z k).length + j, none⟩) (show g < _ from Nat.lt_trans hgs (lt_of_block hs))).trans (hcells _ (by omega))))
          (by rw [z0]; omega) (by rw [z0]; omega) z1 hn1 (by omega)
        simp only [z0] at hcall
        have Hcall : Hid (∀ o : Obj, Calls Yba.prog 7 #[.pointer (some ⟨sb, 0, none⟩)] (wr.alloc o) fun e w' => ElemB.Post sb g (enc T L Z k).length (len - (enc T L Z k).length) (c - (enc T L Z k).length) n (1 + T k % 30) (wr.alloc o) e w') := hcall
        have HX : Hid (∀ j, j < n → oct T L Z N ((enc T L Z k).length + (2 + j)) = Z k j) := zb
        have hsbl := lt_of_block hs
        have HC : Hid (∀ j, j < len → wr.cell? ⟨g, j, none⟩ = some (.int .u8 (oct T L Z N j))) := hcells
        have HO : Hid ((enc T L Z (k + 1)).length = (enc T L Z k).length + (2 + n)) := hoff
        clear hcall z0 z1 zb hcells hs hra hoff
        have hoffN' : (enc T L Z k).length + (2 + n) ≤ len := by rw [← HO.out]; exact hoffN
        clear hoffN
        go_wp2_with (go_at_call 5; refine (Hb5.out _ _).mono ?_; rintro e w' ⟨rfl, rfl⟩)
        refine (Hcall.out _).mono ?_
        rintro e w3 ⟨hgr, ca, ra, rfl, hs3, hca, hra⟩
        have hit : w3.heap[wr.heap.size]? = some (.cells #[.int .u8 (T k), .slice (A k) (L k) (C k)] 25 (0, 0)) := (hgr.block _ (by simp) (by simp; omega)).trans (Go.heap_alloc_new wr _)
        have y0 : w3.cell? ⟨wr.heap.size, 0, none⟩ = some (.int .u8 (T k)) := by rw [cell_of_row _ _ _ _ _ _ hit]; rfl
        have y1 : w3.cell? ⟨wr.heap.size, 1, none⟩ = some (.slice (A k) (L k) (C k)) := by rw [cell_of_row _ _ _ _ _ _ hit]; rfl
        have s1 : w3.cell? ⟨sb, 1, none⟩ = some .nilIface := by rw [cell_of_row _ _ _ _ _ _ hs3]; rfl
        have l1 := lt_of_block hit
        have l2 := lt_of_block hs3
        have hbel3 : Below w.heap.size w w3 := (hbel'.alloc hbel'.size _).grown hgr (by have := hbel'.size; simp; omega) (fun q hq => by simp at hq; omega)
        have HC3 : Hid (∀ j, j < len → w3.cell? ⟨g, j, none⟩ = some (.int .u8 (oct T L Z N j))) := by
          intro j hj
          refine Eq.trans (World.cell?_of_block ((hgr.block g (by simp; omega) (by simp; omega)).trans (Below.heap_alloc _ _ _ (show g < _ from by omega)))) (HC.out j hj)
        have HS3 : Hid (w3.heap[sb]? = some (.cells #[.slice (some ra) (len - (enc T L Z k).length - (2 + n)) (c - (enc T L Z k).length - (2 + n)), .nilIface] 31 (0, 0))) := hs3
        have Hca : Hid (0 < n → ca = ⟨g, (enc T L Z k).length + 2, none⟩) := hca
        have Hra : Hid (2 + n < len - (enc T L Z k).length → ra = ⟨g, (enc T L Z k).length + (2 + n), none⟩) := hra
        have Hbel3 : Hid (Below w.heap.size w w3) := hbel3
        clear hit hs3 hca hra hgr HC Hcall Hb5 c0 c1 hbel3
        go_upto_region 19 with fail
        -- the next round's state, from whatever this round's last statement leaves
        have Hnext : Hid (∀ (o : Obj) (q : Nat), ∃ (k' : Nat) (ra' : Option Addr), k' ≤ N ∧ Value.int .i64 ((k : Int) + 1) = .int .i64 k' ∧ Below w.heap.size w ((w3.alloc o).drewN q) ∧
            ((w3.alloc o).drewN q).heap[sb]? = some (.cells #[.slice ra' (len - (enc T L Z k').length) (c - (enc T L Z k').length), .nilIface] 31 (0, 0)) ∧
            ((enc T L Z k').length < len → ra' = some ⟨g, (enc T L Z k').length, none⟩) ∧ ∀ j, j < len → ((w3.alloc o).drewN q).cell? ⟨g, j, none⟩ = some (.int .u8 (oct T L Z N j))) := by
          intro o q
          have hB : Below w3.heap.size w3 ((w3.alloc o).drewN q) := ⟨rfl, rfl, rfl, by simp, fun i hi => Below.heap_alloc w3 o i hi⟩
          refine ⟨k + 1, some ra, hlt, by go_num, Hbel3.out.trans (hB.mono (by have := Hbel3.out.size; omega)), ?_, ?_, fun j hj => (hB.cell (p := ⟨g, j, none⟩) (show g < _ from by omega)).trans (HC3.out j hj)⟩
          · rw [HO.out, Nat.sub_add_eq len (enc T L Z k).length (2 + n), Nat.sub_add_eq c (enc T L Z k).length (2 + n)]
            exact (hB.block _ l2).trans HS3.out
          · intro h
            rw [HO.out] at h ⊢
            rw [Hra.out (by omega)]
        cases hA : A k with
        | none =>
          obtain ⟨hL, hC⟩ := hI.atNil k hlt hA
          rw [hA, hL, hC] at y1
          obtain rfl : n = 0 := by omega
          simp only [hL, hC]
          clear hL hC hLC hCm hn2 hA
          go_quiet ((first | (go_at_call 6; exact Calls.quiet_of_same (Small.btag _ hT0 hT1 _)) | (go_at_call 8; exact Calls.quiet_of (Small.beq_empty _ _ _ _ _))))
          go_wp2
          go_roundw
          case rel => exact Hnext.out _ _
          case measure => simp [intOf]; omega
        | some ad =>
          rw [hA] at y1
          by_cases hn0 : n = 0
          · subst hn0
            clear hA
            go_quiet ((first | (go_at_call 6; exact Calls.quiet_of_same (Small.btag _ hT0 hT1 _)) | (go_at_call 8; exact Calls.quiet_of (Small.beq_empty _ _ _ _ _))))
            go_wp2
            go_roundw
            case rel => exact Hnext.out _ _
            case measure => simp [intOf]; omega
          · obtain ⟨bb, oo, hab, hbb, hcc⟩ := hI.atSome k hlt (by omega)
            rw [hA] at hab
            obtain rfl : ad = ⟨bb, oo, none⟩ := by simpa using hab
            obtain rfl := Hca.out (by omega)
            have Hcc : Hid (∀ (o : Obj) (q : Nat), Calls Yba.prog 8 #[.slice (some ⟨g, (enc T L Z k).length + 2, none⟩) n n, .slice (some ⟨bb, oo, none⟩) n (C k)] ((w3.alloc o).drewN q) fun e w' => e = .returned (.bool true) ∧ ∃ m, w' = ((w3.alloc o).drewN q).drewN m) := by
              intro o q
              have hB : Below w3.heap.size w3 ((w3.alloc o).drewN q) := ⟨rfl, rfl, rfl, by simp, fun i hi => Below.heap_alloc w3 o i hi⟩
              refine Small.beq_some _ _ _ _ n n (C k) (fun j => Z k j) hn1 _ (fun j hj => ?_) (fun j hj => ?_)
              · rw [Nat.add_assoc, ← HX.out j hj]
                exact (hB.cell (p := ⟨g, _, none⟩) (show g < _ from by omega)).trans (HC3.out _ (by omega))
              · exact ((Hbel3.out.trans (hB.mono (by have := Hbel3.out.size; omega))).cell (p := ⟨bb, oo + j, none⟩) hbb).trans (hcc j (by omega))
            clear hcc hab hA
            go_quiet ((first | (go_at_call 6; exact Calls.quiet_of_same (Small.btag _ hT0 hT1 _)) | (go_at_call 8; exact Calls.quiet_of (Hcc.out _ _))))
            go_wp2
            go_roundw
            case rel => exact Hnext.out _ _
            case measure => simp [intOf]; omega
      · have hkN : k = N := by omega
        subst hkN
        rw [HL.out, Nat.sub_self] at hs
        have hsl := lt_of_block hs
        have heq := eql_nil
        go_wp2_with fail
        refine (Elem.done sb ra (c - len) .nilIface _ hs).mono ?_
        rintro e w3 ⟨rfl, hb3⟩
        have hs3 : w3.heap[sb]? = some (.cells #[.slice ra 0 (c - len), .nilIface] 31 (0, 0)) := (hb3.block _ hsl).trans hs
        have s0 : w3.cell? ⟨sb, 0, none⟩ = some (.slice ra 0 (c - len)) := by rw [cell_of_row _ _ _ _ _ _ hs3]; rfl
        have s1 : w3.cell? ⟨sb, 1, none⟩ = some .nilIface := by rw [cell_of_row _ _ _ _ _ _ hs3]; rfl
        have hsz3 := lt_of_block hs3
        have hsz4 := hbel'.size
        clear hs hs3 hcells hra
        go_wp2
        go_ret
        exact ⟨rfl, (hbel'.trans (hb3.mono hsz4)).alloc (by omega) _⟩
end Go.Proofs.Ybulkabpe.Well
