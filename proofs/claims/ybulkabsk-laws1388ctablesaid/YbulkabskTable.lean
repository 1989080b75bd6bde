import Derived.Test.YbulkabskFirst
import Derived.Deep.RegionWith
namespace Go.Proofs.Ybulkabsk.Table
open Go.RowKit Go.Proofs.Ybulkabsk.Slot Go.Proofs.Ybulkabsk.Plain Go.Proofs.Ybulkabsk.State
set_option linter.unusedVariables false
set_option linter.unusedSimpArgs false

set_option maxRecDepth 100000 in
set_option maxHeartbeats 2000000 in
theorem walk (xa : Option Addr) (xb xo n cap : Nat) (X : Nat → Int) (seed : Int) (w : World)
    (hxa : 0 < n → xa = some ⟨xb, xo, none⟩ ∧ xb < w.heap.size) (hX : ∀ j, j < n → w.cell? ⟨xb, xo + j, none⟩ = some (.int .u64 (X j)) ∧ 0 ≤ X j ∧ X j < 18446744073709551616) :
    Calls Yba.prog 4 #[.slice xa n cap, .int .u64 seed] w fun e w' => e = .returned (.bool true) ∧ Below w.heap.size w w' := by
  by_cases hbig : (512 : Int) < n
  · go_enter Yba.func4, Yba.ntmps4
    go_wp2
    go_ret
    exact ⟨rfl, Below.refl _ _⟩
  obtain ⟨i24, h24, z240, z241, z242⟩ := info_parts Tab.info24
  obtain ⟨i3, h3, z30, z31, z32⟩ := info_parts Tab.info3
  go_enter Yba.func4, Yba.ntmps4
  go_wp2_with fail
  refine (Tab.table_any n (by omega) _).mono ?_
  rintro e w1 ⟨lg, S, g, ns, hS, hlg1, hlg2, hS4, hS1024, hn2, rfl, hns, hg, hg1, hns1, hgns, hnsl, hbel1⟩
  have hgl := lt_of_block hg
  have HS : Hid (S = 2 ^ lg) := hS
  clear hS
  go_upto_region 6 with (at_make; refine wpList_make_own _ rfl _ (.tmp 28) 22 rfl w.heap.size 24 i24 (.int .u64 0) 1 Yba.underlying22 h24 z240 z241 .i64 .i64 n n rfl rfl rfl (by rw [z242]; omega) (by unfold maxLen; omega) (by have := hbel1.size; simp; omega) ?_; intro w2 hown2 hgrow2)
  go_upto_region 7 with (at_make; refine wpList_make_own _ rfl _ (.tmp 30) 31 rfl w.heap.size 3 i3 (.int .i64 0) 1 Yba.underlying31 h3 z30 z31 .i64 .i64 n n rfl rfl rfl (by rw [z32]; omega) (by unfold maxLen; omega) (by have := hbel1.size; have := hgrow2.size; simp at this; omega) ?_; intro w3 hown3 hgrow3)
  have hst := First.started hbel1 HS.out hlg1 hlg2 hS4 hS1024 hn2 hns hg hg1 hns1 hgns hnsl hown2 hgrow2 hown3 hgrow3
  generalize hcfg : (⟨w1.heap.size, g, ns, w1.heap.size + 1, w2.heap.size, S, lg, n⟩ : Cfg) = c at hst
  obtain ⟨hok, hst⟩ := hst
  have Hst : Hid (St w w3 c (fun _ => 0) [] []) := hst
  have e1 : w1.heap.size = c.tb := by rw [← hcfg]
  have e2 : w1.heap.size + 1 = c.kb := by rw [← hcfg]
  have e3 : w2.heap.size = c.fb := by rw [← hcfg]
  have e4 : n = c.n := by rw [← hcfg]
  have e5 : S = c.S := by rw [← hcfg]
  have hn512 : c.n ≤ 512 := by omega
  clear hst hown2 hgrow2 hown3 hgrow3 hns hg hgns hbel1 hnsl hgl hg1 hns1
  rw [e2, e3, e1]
  clear e1 e2 e3 hcfg
  subst e4
  subst e5
  go_upto_block 0 with fail
  go_cut [8, 9] (fun kv fv wx => ∃ (W : Nat → Int) (ks : List Int) (fs : List Nat), kv = .slice (some ⟨c.kb, 0, none⟩) ks.length c.n ∧ fv = .slice (some ⟨c.fb, 0, none⟩) fs.length c.n ∧ ks.length ≤ c.n ∧ (∀ m, fs.getD m 0 ≤ 512) ∧ St w wx c W ks fs ∧ Plain.Inv c.S (State.start seed c.lg) W ks fs)
  case first =>
    go_wp2
    go_loopw [8, 9, 34] (fun kv fv i wr => ∃ (k : Nat) (W : Nat → Int) (ks : List Int) (fs : List Nat), k ≤ c.n ∧ i = .int .i64 k ∧ kv = .slice (some ⟨c.kb, 0, none⟩) ks.length c.n ∧ fv = .slice (some ⟨c.fb, 0, none⟩) fs.length c.n ∧
        ks.length ≤ k ∧ (∀ m, fs.getD m 0 ≤ 512) ∧ St w wr c W ks fs ∧ Plain.Inv c.S (State.start seed c.lg) W ks fs) (fun _ _ i _ => c.n - (intOf i).toNat)
    case atStart => exact ⟨0, fun _ => 0, [], [], Nat.zero_le _, rfl, rfl, rfl, Nat.le_refl _, fun m => by simp, Hst.out, Plain.empty _ _⟩
    case round =>
      clear Hst
      obtain ⟨k, W, ks, fs, hk, rfl, rfl, rfl, hkl, hfs, hSt, hInv⟩ := hrel
      have Hfs : Hid (∀ m, fs.getD m 0 ≤ 512) := hfs
      clear hfs
      by_cases hlt : k < c.n
      · obtain ⟨rfl, hxb⟩ := hxa (by omega)
        obtain ⟨hx0, hx1, hx2⟩ := hX k hlt
        have xc : wr.cell? ⟨xb, xo + k, none⟩ = some (.int .u64 (X k)) := (hSt.bel.cell (p := ⟨xb, xo + k, none⟩) hxb).trans hx0
        obtain ⟨e, κ, he, hel, hsh, hκ, hκ1, hκ2⟩ := Entry.facts (X k) hx1 hx2
        have hlS : ks.length < c.S := by have := hok.n2; have := hok.S4; omega
        have hcS := hok.S4
        have hcall := fun (wx : World) (hb : Below wr.heap.size wr wx) => slot_call hok (hSt.later hok hb) seed hInv hlS (e : Int) (κ : Int) k true hsh hκ (by omega) (by omega)
        have Hentry : Hid (∀ wx, Calls Yba.prog 6 #[.int .u64 (X k)] wx fun x w' => x = .returned (.int .u64 (e : Int)) ∧ wx = w') := fun wx => by rw [← he]; exact (Slot.entry_any _ hx1 hx2 wx).mono fun _ _ h => ⟨h.1, h.2.symm⟩
        have Hkey : Hid (∀ wx, Calls Yba.prog 7 #[.int .u64 (e : Int)] wx fun x w' => x = .returned (.int .u64 (κ : Int)) ∧ wx = w') := fun wx => by rw [← hκ]; exact (Slot.key_any _ wx).mono fun _ _ h => ⟨h.1, h.2.symm⟩
        have hhash := fun wx => (Slot.hash_any (κ : Int) seed wx).mono (fun _ _ h => (⟨h.1, h.2.symm⟩ : _ ∧ wx = _))
        generalize IntKind.u64.wrap (IntKind.u64.wrap ((κ : Int) * 11400714819323198485) + seed) = hv at hcall hhash
        have Hhash : Hid (∀ wx, Calls Yba.prog 8 #[.int .u64 (κ : Int), .int .u64 seed] wx fun x w' => x = .returned (.int .u64 hv) ∧ wx = w') := hhash
        have Hcall : Hid (∀ (wx : World), Below wr.heap.size wr wx → Calls Yba.prog 10 #[.agg #[.pointer (some ⟨c.ns, 0, none⟩), .int .u64 (64 - c.lg), .int .u64 0], .int .u64 (e : Int), .int .u64 hv, .int .i64 k, .bool true] wx fun x w' =>
            ∃ q W', x = .returned (.pointer (some ⟨c.g, q, none⟩)) ∧ Hid (St w w' c W' ks fs ∧ (((∃ j, j < ks.length ∧ ks.getD j 0 = κ) ∧ W' = W) ∨ ((∀ j, j < ks.length → ks.getD j 0 ≠ κ) ∧ Plain.Inv c.S (State.start seed c.lg) W' (ks ++ [(κ : Int)]) (fs ++ [k]))))) := by
          intro wx hb
          refine (hcall wx hb).mono ?_
          rintro x w4 ⟨d, hd, hpre, hP⟩
          have hsS : (State.start seed c.lg κ + d) % c.S < c.S := Nat.mod_lt _ (by omega)
          rcases hP with ⟨hW, rfl, hb4⟩ | ⟨_, h, _, _⟩ | ⟨hW, _, rfl, hg4, hw4⟩
          · obtain ⟨m, hm, hmk, _⟩ := Plain.hit hInv hsS (by omega) hW
            exact ⟨_, W, rfl, (hSt.later hok hb).later hok hb4, .inl ⟨⟨m, hm, hmk⟩, rfl⟩⟩
          · cases h
          · exact ⟨_, _, rfl, (hSt.later hok hb).slotted hok hg4 hw4, .inr ⟨Plain.miss hInv hpre hW (by omega), Plain.insert hInv k hd hpre hW (by omega)⟩⟩
        clear hcall hhash he hκ
        obtain ⟨t0, t1, t2⟩ := hSt.tcells
        have hlen := hInv.len
        have Hl : Hid (fs.length = ks.length) := hlen
        clear hlen
        go_upto_region 12 with (first
          | (go_at_call 6; refine (Hentry.out _).mono ?_; rintro x w' ⟨rfl, rfl⟩)
          | (go_at_call 7; refine (Hkey.out _).mono ?_; rintro x w' ⟨rfl, rfl⟩))
        go_cut [50] (fun b wx => b = .bool false ∧ ∃ W', Hid (St w wx c W' ks fs ∧ (((∃ j, j < ks.length ∧ ks.getD j 0 = κ) ∧ W' = W) ∨ ((∀ j, j < ks.length → ks.getD j 0 ≠ κ) ∧ Plain.Inv c.S (State.start seed c.lg) W' (ks ++ [(κ : Int)]) (fs ++ [k])))))
        case first =>
          go_region_with (first
            | (go_at_call 8; refine (Hhash.out _).mono ?_; rintro x w' ⟨rfl, rfl⟩)
            | (go_at_call 10; refine (Hcall.out wr.drew ((Below.refl _ _).drew)).mono ?_; rintro x w4 ⟨q, W', rfl, hP⟩))
          all_goals (go_wp2_with fail; go_meet; exact ⟨rfl, W', hP⟩)
        case rest =>
          obtain ⟨rfl, W', hP⟩ := hcut
          obtain ⟨hSt4, hP⟩ := hP.out
          have hkeys := hSt4.key
          clear t0 t1 t2 xc Hcall Hhash Hentry Hkey
          rcases hP with ⟨⟨j, hj, hjk⟩, rfl⟩ | ⟨hnf, hInv4⟩
          · have Hfind : Hid (Calls Yba.prog 9 #[.slice (some ⟨c.kb, 0, none⟩) ks.length c.n, .int .u64 (κ : Int)] wc fun x w' => x = .returned (.int .i64 j) ∧ wc = w') :=
              (Tab.find_yes c.kb ks.length c.n (fun i => ks.getD i 0) κ j hj (by omega) hjk (fun i hi h => by have := hInv.nodup i j (by omega) hj (h.trans hjk.symm); omega) wc hkeys).mono fun _ _ h => ⟨h.1, h.2.symm⟩
            clear hkeys hjk
            go_wp2_with (go_at_call 9; refine Hfind.out.mono ?_; rintro x w' ⟨rfl, rfl⟩)
            go_roundw
            case rel => exact ⟨k + 1, W', ks, fs, by omega, by go_num, rfl, rfl, by omega, Hfs.out, hSt4, hInv⟩
            case measure => simp [intOf]; omega
          · have Hfind : Hid (Calls Yba.prog 9 #[.slice (some ⟨c.kb, 0, none⟩) ks.length c.n, .int .u64 (κ : Int)] wc fun x w' => x = .returned (.int .i64 (-1)) ∧ wc = w') :=
              (Tab.find_no c.kb ks.length c.n (fun i => ks.getD i 0) κ (by omega) hnf wc hkeys).mono fun _ _ h => ⟨h.1, h.2.symm⟩
            clear hkeys hnf
            have hlf : fs.length < c.n := by rw [Hl.out]; omega
            go_upto_region 16 with (first
              | (go_at_call 9; refine Hfind.out.mono ?_; rintro x w' ⟨rfl, rfl⟩)
              | (at_builtin; refine wpList_append_fits _ rfl (.tmp 55) (.tmp 57) 22 rfl w.heap.size 24 i24 1 Yba.underlying22 h24 z241 c.kb ks.length c.n (ks.map (Value.int .u64)) rfl (hSt4.keys.alloc _) ⟨wc.heap.size, 0, none⟩ 1 1 [.int .u64 (κ : Int)] rfl rfl (First.news1 wc _ _) (First.one1 _ _) (by omega) ?_; intro w5 hown5 hgrow5))
            have hSt5 : St w w5 c W' (ks ++ [(κ : Int)]) fs := (hSt4.later hok ((Below.refl _ _).alloc (Nat.le_refl _) _)).keyed hok hgrow5 (by simpa using hown5)
            go_upto_region 17 with (at_builtin; refine wpList_append_fits _ rfl (.tmp 59) (.tmp 61) 31 rfl w.heap.size 3 i3 1 Yba.underlying31 h3 z31 c.fb fs.length c.n (fs.map fun i : Nat => Value.int .i64 i) rfl (hSt5.firsts.alloc _) ⟨w5.heap.size, 0, none⟩ 1 1 [.int .i64 (k : Int)] rfl rfl (First.news1 w5 _ _) (First.one1 _ _) (by omega) ?_; intro w6 hown6 hgrow6)
            have hSt6 : St w w6 c W' (ks ++ [(κ : Int)]) (fs ++ [k]) := (hSt5.later hok ((Below.refl _ _).alloc (Nat.le_refl _) _)).numbered hok hgrow6 (by simpa using hown6)
            have Hfs6 : Hid (∀ m, (fs ++ [k]).getD m 0 ≤ 512) := by
              intro m
              rcases Nat.lt_trichotomy m fs.length with h | h | h
              · rw [Plain.getD_snoc_lt _ _ _ _ h]; exact Hfs.out m
              · subst h; rw [Plain.getD_snoc_eq]; omega
              · rw [List.getD_eq_getElem?_getD, List.getElem?_eq_none (by simp; omega)]; simp
            clear hown5 hgrow5 hown6 hgrow6 hSt4 hSt5
            go_wp2
            go_roundw
            case rel => exact ⟨k + 1, W', ks ++ [(κ : Int)], fs ++ [k], by omega, by go_num, by simp, by simp, by simp; omega, Hfs6.out, hSt6, hInv4⟩
            case measure => simp [intOf]; omega
      · have hkN : k = c.n := by omega
        subst hkN
        go_wp2
        go_meet
        case rel => exact ⟨W, ks, fs, rfl, rfl, hkl, Hfs.out, hSt, hInv⟩
  case rest =>
    obtain ⟨W, ks, fs, rfl, rfl, hkl, hfs, hSt, hInv⟩ := hcut
    have Hfs : Hid (∀ m, fs.getD m 0 ≤ 512) := hfs
    have Hl : Hid (fs.length = ks.length) := hInv.len
    have hS10 := hok.S1024
    have hsc := hSt.set
    obtain ⟨t0, t1, t2⟩ := hSt.tcells
    clear hfs Hst hX
    go_wp2
    go_loopw [15, 16] (fun oc sl wr => ∃ (s q : Nat), s ≤ c.S ∧ sl = .int .i64 s ∧ q ≤ s ∧ oc = .int .i64 q ∧ Hid (q = (List.range s).countP fun x => W (2 * x) != 0) ∧ St w wr c W ks fs) (fun _ sl _ => c.S - (intOf sl).toNat)
    case atStart => exact ⟨0, 0, Nat.zero_le _, rfl, Nat.le_refl _, rfl, by show 0 = _; simp, hSt⟩
    case round =>
      clear hSt hsc t0 t1 t2
      obtain ⟨s, q, hs, rfl, hqs, rfl, Hq, hSt⟩ := hrel
      by_cases hlt : s < c.S
      · have c0 := hSt.word (2 * s) (by omega)
        have c1 := hSt.word (2 * s + 1) (by omega)
        have i0 : (2 : Int) * s < 2 * c.S := by omega
        have i1 : (2 : Int) * s + 1 < 2 * c.S := by omega
        by_cases z : (W (2 * s) == 0) = true
        · have Hz : Hid (W (2 * s) = 0) := beq_iff_eq.1 z
          go_wp2
          go_roundw
          case rel =>
            refine ⟨s + 1, q, by omega, by go_num, by omega, rfl, ?_, hSt⟩
            show q = _
            rw [List.range_succ, List.countP_append, ← Hq.out]
            simp [Hz.out]
          case measure => simp [intOf]; omega
        · have z : (W (2 * s) == 0) = false := by simpa using z
          have hz : W (2 * s) ≠ 0 := beq_eq_false_iff_ne.1 z
          obtain ⟨m, hm, hmk, hmf⟩ := hInv.back s hlt hz
          have Hcnt : Hid (q + 1 = (List.range (s + 1)).countP fun x => W (2 * x) != 0) := by
            show q + 1 = _
            rw [List.range_succ, List.countP_append, ← Hq.out]
            simp [hz]
          have Hfind : Hid (Calls Yba.prog 9 #[.slice (some ⟨c.kb, 0, none⟩) ks.length c.n, .int .u64 (W (2 * s))] wr fun x w' => x = .returned (.int .i64 m) ∧ wr = w') :=
            (Tab.find_yes c.kb ks.length c.n (fun i => ks.getD i 0) (W (2 * s)) m hm (by omega) hmk (fun i hi h => by have := hInv.nodup i m (by omega) hm (h.trans hmk.symm); omega) wr hSt.key).mono fun _ _ h => ⟨h.1, h.2.symm⟩
          have p2 := hSt.first m (by rw [Hl.out]; exact hm)
          have hmf' : m < fs.length := by rw [Hl.out]; exact hm
          obtain ⟨f, hf⟩ : ∃ f, f = fs.getD m 0 := ⟨_, rfl⟩
          have hf5 : f ≤ 512 := by rw [hf]; exact Hfs.out m
          rw [← hf] at p2 hmf
          rw [← hmf] at c1
          clear hf hmf hmk hz
          have hd : decide ((m : Int) < 0) = false := decide_eq_false (by omega)
          go_wp2_with (go_at_call 9; refine Hfind.out.mono ?_; rintro x w' ⟨rfl, rfl⟩)
          go_quiet (fail)
          go_wp2
          go_roundw
          case rel => exact ⟨s + 1, q + 1, by omega, by go_num, by omega, by go_num, Hcnt.out, hSt.later hok ⟨rfl, rfl, rfl, Nat.le_refl _, fun _ _ => rfl⟩⟩
          case measure => simp [intOf]; omega
      · have hsS : s = c.S := by omega
        have hq : q = ks.length := by rw [Hq.out, hsS]; exact hInv.count
        have eq : ((q : Int) == (ks.length : Int)) = true := beq_iff_eq.2 (by omega)
        clear hq hsS
        go_wp2
        go_ret
        exact ⟨rfl, hSt.bel⟩
end Go.Proofs.Ybulkabsk.Table
