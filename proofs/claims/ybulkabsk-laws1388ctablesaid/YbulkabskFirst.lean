import Derived.Test.YbulkabskState
namespace Go.Proofs.Ybulkabsk.First
open Go.RowKit Go.Proofs.Ybulkabsk.Slot Go.Proofs.Ybulkabsk.Plain Go.Proofs.Ybulkabsk.State
set_option linter.unusedVariables false
set_option linter.unusedSimpArgs false

/-- The law's own memory as its loop begins. -/
theorem started {w w1 w2 w3 : World} {lg S g ns n : Nat} (hbel1 : Below w.heap.size w w1) (hS : S = 2 ^ lg) (hlg1 : 2 ≤ lg) (hlg2 : lg ≤ 10) (hS4 : 4 ≤ S) (hS1024 : S ≤ 1024) (hn2 : 2 * n ≤ S)
    (hns : w1.cell? ⟨ns, 6, none⟩ = some (.slice (some ⟨g, 0, none⟩) (2 * S) (2 * S))) (hg : w1.heap[g]? = some (.cells (words (fun _ => 0) (2 * S)) 24 (0, 0))) (hg1 : w.heap.size ≤ g) (hns1 : w.heap.size ≤ ns) (hgns : g ≠ ns) (hnsl : ns < w1.heap.size)
    (hown2 : w2.ownsRow w.heap.size 24 1 (.slice (some ⟨(w1.alloc (.cells #[.pointer (some ⟨ns, 0, none⟩), .int .u64 (64 - lg), .int .u64 0] 28)).heap.size, 0, none⟩) 0 n) 0 [])
    (hgrow2 : (w1.alloc (.cells #[.pointer (some ⟨ns, 0, none⟩), .int .u64 (64 - lg), .int .u64 0] 28)).grownBy w2 none)
    (hown3 : w3.ownsRow w.heap.size 3 1 (.slice (some ⟨w2.heap.size, 0, none⟩) 0 n) 0 []) (hgrow3 : w2.grownBy w3 none) :
    (⟨w1.heap.size, g, ns, w1.heap.size + 1, w2.heap.size, S, lg, n⟩ : Cfg).ok w.heap.size ∧ St w w3 ⟨w1.heap.size, g, ns, w1.heap.size + 1, w2.heap.size, S, lg, n⟩ (fun _ => 0) [] [] := by
  have hgl := lt_of_block hg
  have hkb : (w1.alloc (.cells #[.pointer (some ⟨ns, 0, none⟩), .int .u64 (64 - lg), .int .u64 0] 28)).heap.size = w1.heap.size + 1 := by simp
  have s2 := hgrow2.size
  rw [hkb] at hown2 s2
  have s1 := hbel1.size
  have hkl := block_of_own hown2
  refine ⟨⟨hS, hlg1, hlg2, hS4, hS1024, hn2, hg1, hns1, hgns, hgl, hnsl, Nat.lt_succ_self _, hkl⟩, ?_⟩
  have hB1 : Below w1.heap.size w1 (w1.alloc (.cells #[.pointer (some ⟨ns, 0, none⟩), .int .u64 (64 - lg), .int .u64 0] 28)) := (Below.refl _ _).alloc (Nat.le_refl _) _
  have hB2 : Below w1.heap.size w1 w2 := hB1.grown hgrow2 (by omega) (fun k hk => by cases hk)
  have hB3 : Below w1.heap.size w1 w3 := hB2.grown hgrow3 (by omega) (fun k hk => by cases hk)
  refine ⟨hbel1.trans (hB3.mono s1), ?_, (hB3.cell (p := ⟨ns, 6, none⟩) hnsl).trans hns, (hB3.block _ hgl).trans hg, hown2.kept hgrow3 (.inr (by simp [Value.ownBlock])), hown3⟩
  exact (hgrow3.block _ (by show w1.heap.size < _; omega) (by simp)).trans ((hgrow2.block _ (by rw [hkb]; exact Nat.lt_succ_self _) (by simp)).trans (Go.heap_alloc_new w1 _))

theorem news1 (w : World) (v : Value) (t : TypeId) : ∀ j u, [v][j]? = some u → (w.alloc (.cells #[v] t)).cell? ((⟨w.heap.size, 0, none⟩ : Addr).add j) = some u := by
  intro j u hu
  match j, hu with
  | 0, hu =>
    simp at hu
    subst hu
    rw [show (⟨w.heap.size, 0, none⟩ : Addr).add 0 = ⟨w.heap.size, 0, none⟩ from by unfold Addr.add; split <;> simp_all, cell_of_row _ _ _ _ _ _ (Go.heap_alloc_new w _)]
    rfl
theorem one1 (k : IntKind) (n : Int) : ∀ u ∈ [Value.int k n], u.oneCell' = true := by
  intro u hu
  simp at hu
  subst hu
  rfl

set_option maxRecDepth 100000 in
set_option maxHeartbeats 2000000 in
theorem walk (xa : Option Addr) (xb xo n cap : Nat) (X : Nat → Int) (ka : Option Addr) (kb0 ko an acap : Nat) (AK : Nat → Bool) (seed : Int) (w : World)
    (hxa : 0 < n → xa = some ⟨xb, xo, none⟩ ∧ xb < w.heap.size) (hX : ∀ j, j < n → w.cell? ⟨xb, xo + j, none⟩ = some (.int .u64 (X j)) ∧ 0 ≤ X j ∧ X j < 18446744073709551616)
    (hka : 0 < an → ka = some ⟨kb0, ko, none⟩ ∧ kb0 < w.heap.size) (hA : ∀ j, j < an → w.cell? ⟨kb0, ko + j, none⟩ = some (.bool (AK j))) :
    Calls Yba.prog 3 #[.slice xa n cap, .slice ka an acap, .int .u64 seed] w fun e w' => e = .returned (.bool true) ∧ Below w.heap.size w w' := by
  by_cases hbig : (512 : Int) < n
  · go_enter Yba.func3, Yba.ntmps3
    go_wp2
    go_ret
    exact ⟨rfl, Below.refl _ _⟩
  obtain ⟨i24, h24, z240, z241, z242⟩ := info_parts Tab.info24
  obtain ⟨i3, h3, z30, z31, z32⟩ := info_parts Tab.info3
  go_enter Yba.func3, Yba.ntmps3
  go_wp2_with fail
  refine (Tab.table_any n (by omega) _).mono ?_
  rintro e w1 ⟨lg, S, g, ns, hS, hlg1, hlg2, hS4, hS1024, hn2, rfl, hns, hg, hg1, hns1, hgns, hnsl, hbel1⟩
  have hgl := lt_of_block hg
  have HS : Hid (S = 2 ^ lg) := hS
  clear hS
  go_upto_region 6 with (at_make; refine wpList_make_own _ rfl _ (.tmp 30) 22 rfl w.heap.size 24 i24 (.int .u64 0) 1 Yba.underlying22 h24 z240 z241 .i64 .i64 n n rfl rfl rfl (by rw [z242]; omega) (by unfold maxLen; omega) (by have := hbel1.size; simp; omega) ?_; intro w2 hown2 hgrow2)
  go_upto_region 7 with (at_make; refine wpList_make_own _ rfl _ (.tmp 32) 31 rfl w.heap.size 3 i3 (.int .i64 0) 1 Yba.underlying31 h3 z30 z31 .i64 .i64 n n rfl rfl rfl (by rw [z32]; omega) (by unfold maxLen; omega) (by have := hbel1.size; have := hgrow2.size; simp at this; omega) ?_; intro w3 hown3 hgrow3)
  have hst := started hbel1 HS.out hlg1 hlg2 hS4 hS1024 hn2 hns hg hg1 hns1 hgns hnsl hown2 hgrow2 hown3 hgrow3
  have hkb : (w1.alloc (.cells #[.pointer (some ⟨ns, 0, none⟩), .int .u64 (64 - lg), .int .u64 0] 28)).heap.size = w1.heap.size + 1 := by simp
  generalize hcfg : (⟨w1.heap.size, g, ns, w1.heap.size + 1, w2.heap.size, S, lg, n⟩ : Cfg) = c at hst
  obtain ⟨hok, hst⟩ := hst
  have Hst : Hid (St w w3 c (fun _ => 0) [] []) := hst
  have e1 : w1.heap.size = c.tb := by rw [← hcfg]
  have e2 : w1.heap.size + 1 = c.kb := by rw [← hcfg]
  have e3 : w2.heap.size = c.fb := by rw [← hcfg]
  have e4 : n = c.n := by rw [← hcfg]
  have hn512 : c.n ≤ 512 := by omega
  clear hst hown2 hgrow2 hown3 hgrow3 hns hg hgns hbel1 hnsl hgl hg1 hns1 hkb
  rw [e2, e3, e1]
  clear e1 e2 e3 hcfg
  subst e4
  go_wp2
  go_loopw [10, 11, 36] (fun kv fv i wr => ∃ (k : Nat) (W : Nat → Int) (ks : List Int) (fs : List Nat), k ≤ c.n ∧ i = .int .i64 k ∧ kv = .slice (some ⟨c.kb, 0, none⟩) ks.length c.n ∧ fv = .slice (some ⟨c.fb, 0, none⟩) fs.length c.n ∧
      ks.length ≤ k ∧ (∀ m, fs.getD m 0 ≤ 512) ∧ St w wr c W ks fs ∧ Plain.Inv c.S (State.start seed c.lg) W ks fs) (fun _ _ i _ => c.n - (intOf i).toNat)
  case atStart => exact ⟨0, fun _ => 0, [], [], Nat.zero_le _, rfl, rfl, rfl, Nat.le_refl _, fun m => by simp, Hst.out, Plain.empty _ _⟩
  case round =>
    clear Hst
    obtain ⟨k, W, ks, fs, hk, rfl, rfl, rfl, hkl, hfs, hSt, hInv⟩ := hrel
    have Hfs : Hid (∀ m, fs.getD m 0 ≤ 512) := hfs
    clear hfs
    by_cases hlt : k < c.n
    · obtain ⟨rfl, hxb⟩ := hxa (by omega)
      obtain ⟨hx0, hx1, hx2⟩ := hX k hlt
      have xc : wr.cell? ⟨xb, xo + k, none⟩ = some (.int .u64 (X k)) := (hSt.bel.cell (p := ⟨xb, xo + k, none⟩) hxb).trans hx0
      obtain ⟨e, κ, he, hel, hsh, hκ, hκ1, hκ2⟩ := Entry.facts (X k) hx1 hx2
      have hlS : ks.length < c.S := by have := hok.n2; have := hok.S4; omega
      have hcall := fun ins => slot_call hok hSt seed hInv hlS (e : Int) (κ : Int) k ins hsh hκ (by omega) (by omega)
      have Hentry : Hid (∀ wx, Calls Yba.prog 6 #[.int .u64 (X k)] wx fun x w' => x = .returned (.int .u64 (e : Int)) ∧ wx = w') := fun wx => by rw [← he]; exact (Slot.entry_any _ hx1 hx2 wx).mono fun _ _ h => ⟨h.1, h.2.symm⟩
      have Hkey : Hid (∀ wx, Calls Yba.prog 7 #[.int .u64 (e : Int)] wx fun x w' => x = .returned (.int .u64 (κ : Int)) ∧ wx = w') := fun wx => by rw [← hκ]; exact (Slot.key_any _ wx).mono fun _ _ h => ⟨h.1, h.2.symm⟩
      have hhash := fun wx => (Slot.hash_any (κ : Int) seed wx).mono (fun _ _ h => (⟨h.1, h.2.symm⟩ : _ ∧ wx = _))
      generalize IntKind.u64.wrap (IntKind.u64.wrap ((κ : Int) * 11400714819323198485) + seed) = hv at hcall hhash
      have Hhash : Hid (∀ wx, Calls Yba.prog 8 #[.int .u64 (κ : Int), .int .u64 seed] wx fun x w' => x = .returned (.int .u64 hv) ∧ wx = w') := hhash
      have Hcall : Hid (∀ ins, Calls Yba.prog 10 #[.agg #[.pointer (some ⟨c.ns, 0, none⟩), .int .u64 (64 - c.lg), .int .u64 0], .int .u64 (e : Int), .int .u64 hv, .int .i64 k, .bool ins] wr fun x w' => Slot.Post c.g c.S (State.start seed c.lg κ) κ k ins W wr x w') := hcall
      clear hcall hhash he hκ
      obtain ⟨t0, t1, t2⟩ := hSt.tcells
      have hkeys := hSt.key
      have hlen := hInv.len
      have Hl : Hid (fs.length = ks.length) := hlen
      clear hlen
      go_upto_region 13 with (first
        | (go_at_call 6; refine (Hentry.out _).mono ?_; rintro x w' ⟨rfl, rfl⟩)
        | (go_at_call 7; refine (Hkey.out _).mono ?_; rintro x w' ⟨rfl, rfl⟩)
        | (go_at_call 8; refine (Hhash.out _).mono ?_; rintro x w' ⟨rfl, rfl⟩))
      go_cut [17] (fun b wx => ∃ ins : Bool, b = .bool ins ∧ wx = wr)
      case first =>
        by_cases hka' : k < an
        · obtain ⟨rfl, hkb⟩ := hka (by omega)
          have ac : wr.cell? ⟨kb0, ko + k, none⟩ = some (.bool (AK k)) := (hSt.bel.cell (p := ⟨kb0, ko + k, none⟩) hkb).trans (hA k hka')
          go_wp2
          go_meet
          case rel => exact ⟨_, rfl, rfl⟩
        · have hd : decide ((k : Int) < (an : Int)) = false := by simpa using hka'
          go_wp2
          go_meet
          case rel => exact ⟨true, rfl, rfl⟩
      case rest =>
        obtain ⟨ins, rfl, rfl⟩ := hcut
        have hcS := hok.S4
        by_cases hfound : ∃ j, j < ks.length ∧ ks.getD j 0 = κ
        · obtain ⟨j, hj, hjk⟩ := hfound
          have Hfind : Hid (Calls Yba.prog 9 #[.slice (some ⟨c.kb, 0, none⟩) ks.length c.n, .int .u64 (κ : Int)] wc fun x w' => x = .returned (.int .i64 j) ∧ wc = w') :=
            (Tab.find_yes c.kb ks.length c.n (fun i => ks.getD i 0) κ j hj (by omega) hjk (fun i hi h => by have := hInv.nodup i j (by omega) hj (h.trans hjk.symm); omega) wc hkeys).mono fun _ _ h => ⟨h.1, h.2.symm⟩
          go_wp2_with (go_at_call 9; refine Hfind.out.mono ?_; rintro x w' ⟨rfl, rfl⟩)
          refine (Hcall.out ins).mono ?_
          rintro x w4 ⟨d, hd, hpre, hP⟩
          rcases hP with ⟨hW, rfl, hb4⟩ | ⟨hW, _, _, _⟩ | ⟨hW, _, _, _, _⟩
          · have hSt4 := hSt.later hok hb4
            have hsS : (State.start seed c.lg κ + d) % c.S < c.S := Nat.mod_lt _ (by omega)
            obtain ⟨m, hm, hmk, hmf⟩ := Plain.hit hInv hsS (by omega) hW
            have hmj : m = j := hInv.nodup m j hm hj (hmk.trans hjk.symm)
            subst hmj
            have p1 : w4.cell? ⟨c.g, 2 * ((State.start seed c.lg κ + d) % c.S) + 1, none⟩ = some (.int .u64 ((fs.getD m 0 : Nat) : Int)) := by rw [hSt4.word _ (by omega), hmf]
            have p2 := hSt4.first m (by rw [Hl.out]; exact hm)
            have hmf' : m < fs.length := by rw [Hl.out]; exact hm
            obtain ⟨f, hf⟩ : ∃ f, f = fs.getD m 0 := ⟨_, rfl⟩
            have hf5 : f ≤ 512 := by rw [hf]; exact Hfs.out m
            rw [← hf] at p1 p2
            generalize 2 * ((State.start seed c.lg κ + d) % c.S) + 1 = q at p1 ⊢
            clear hf hpre hmf hmk hjk hW hkeys t0 t1 t2 xc hX hA
            go_wp2
            go_quiet (fail)
            go_wp2
            go_roundw
            case rel => exact ⟨k + 1, W, ks, fs, by omega, by go_num, rfl, rfl, by omega, Hfs.out, hSt4.later hok ⟨rfl, rfl, rfl, Nat.le_refl _, fun _ _ => rfl⟩, hInv⟩
            case measure => simp [intOf]; omega
          · exact absurd hjk (Plain.miss hInv hpre hW (by omega) j hj)
          · exact absurd hjk (Plain.miss hInv hpre hW (by omega) j hj)
        · have hnf : ∀ i, i < ks.length → ks.getD i 0 ≠ κ := fun i hi h => hfound ⟨i, hi, h⟩
          have Hfind : Hid (Calls Yba.prog 9 #[.slice (some ⟨c.kb, 0, none⟩) ks.length c.n, .int .u64 (κ : Int)] wc fun x w' => x = .returned (.int .i64 (-1)) ∧ wc = w') :=
            (Tab.find_no c.kb ks.length c.n (fun i => ks.getD i 0) κ (by omega) hnf wc hkeys).mono fun _ _ h => ⟨h.1, h.2.symm⟩
          go_wp2_with (go_at_call 9; refine Hfind.out.mono ?_; rintro x w' ⟨rfl, rfl⟩)
          refine (Hcall.out ins).mono ?_
          rintro x w4 ⟨d, hd, hpre, hP⟩
          have hsS : (State.start seed c.lg κ + d) % c.S < c.S := Nat.mod_lt _ (by omega)
          rcases hP with ⟨hW, _, _⟩ | ⟨hW, rfl, rfl, hb4⟩ | ⟨hW, rfl, rfl, hg4, hw4⟩
          · obtain ⟨m, hm, hmk, _⟩ := Plain.hit hInv hsS (by omega) hW
            exact absurd hmk (hnf m hm)
          · have hSt4 := hSt.later hok hb4
            clear hpre hW hkeys t0 t1 t2 xc hX hA
            go_wp2
            go_roundw
            case rel => exact ⟨k + 1, W, ks, fs, by omega, by go_num, rfl, rfl, by omega, Hfs.out, hSt4, hInv⟩
            case measure => simp [intOf]; omega
          · have hSt4 := hSt.slotted hok hg4 hw4
            have hInv4 := Plain.insert hInv k hd hpre hW (by omega)
            have p1 : w4.cell? ⟨c.g, 2 * ((State.start seed c.lg κ + d) % c.S) + 1, none⟩ = some (.int .u64 (k : Int)) := by
              rw [hSt4.word _ (by omega)]
              unfold Slot.upd
              rw [if_neg (by omega), if_pos rfl]
            generalize 2 * ((State.start seed c.lg κ + d) % c.S) + 1 = q at p1 ⊢
            generalize hW' : Slot.upd W ((State.start seed c.lg κ + d) % c.S) (κ : Int) (k : Int) = W' at hSt4 hInv4
            clear hW' hpre hW hkeys t0 t1 t2 xc hX hA hg4 hw4
            go_upto_region 24 with fail
            have hlf : fs.length < c.n := by rw [Hl.out]; omega
            go_upto_region 25 with (at_builtin; refine wpList_append_fits _ rfl (.tmp 97) (.tmp 99) 22 rfl w.heap.size 24 i24 1 Yba.underlying22 h24 z241 c.kb ks.length c.n (ks.map (Value.int .u64)) rfl (hSt4.keys.alloc _) ⟨w4.heap.size, 0, none⟩ 1 1 [.int .u64 (κ : Int)] rfl rfl (news1 w4 _ _) (one1 _ _) (by omega) ?_; intro w5 hown5 hgrow5)
            have hSt5 : St w w5 c W' (ks ++ [(κ : Int)]) fs := (hSt4.later hok ((Below.refl _ _).alloc (Nat.le_refl _) _)).keyed hok hgrow5 (by simpa using hown5)
            go_upto_region 26 with (at_builtin; refine wpList_append_fits _ rfl (.tmp 101) (.tmp 103) 31 rfl w.heap.size 3 i3 1 Yba.underlying31 h3 z31 c.fb fs.length c.n (fs.map fun i : Nat => Value.int .i64 i) rfl (hSt5.firsts.alloc _) ⟨w5.heap.size, 0, none⟩ 1 1 [.int .i64 (k : Int)] rfl rfl (news1 w5 _ _) (one1 _ _) (by omega) ?_; intro w6 hown6 hgrow6)
            have hSt6 : St w w6 c W' (ks ++ [(κ : Int)]) (fs ++ [k]) := (hSt5.later hok ((Below.refl _ _).alloc (Nat.le_refl _) _)).numbered hok hgrow6 (by simpa using hown6)
            have Hfs6 : Hid (∀ m, (fs ++ [k]).getD m 0 ≤ 512) := by
              intro m
              rcases Nat.lt_trichotomy m fs.length with h | h | h
              · rw [Plain.getD_snoc_lt _ _ _ _ h]; exact Hfs.out m
              · subst h; rw [Plain.getD_snoc_eq]; omega
              · rw [List.getD_eq_getElem?_getD, List.getElem?_eq_none (by simp; omega)]; simp
            clear hown5 hgrow5 hown6 hgrow6 p1 hSt4 hSt5
            go_wp2
            go_roundw
            case rel => exact ⟨k + 1, W', ks ++ [(κ : Int)], fs ++ [k], by omega, by go_num, by simp, by simp, by simp; omega, Hfs6.out, hSt6, hInv4⟩
            case measure => simp [intOf]; omega
    · go_wp2
      go_ret
      exact ⟨rfl, hSt.bel⟩
end Go.Proofs.Ybulkabsk.First
