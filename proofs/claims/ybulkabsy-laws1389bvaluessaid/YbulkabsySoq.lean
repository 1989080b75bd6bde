import Derived.Test.YbulkabsySo
namespace Go.Proofs.Ybulkabsy.So
open Go.RowKit Go.Sort Go.Proofs.Ybulkabsy.Srch
set_option linter.unusedVariables false
set_option linter.unusedSimpArgs false

theorem sorted_go (d : Array Int) (b i : Nat) (h : i < b) (hl : ¬ d[i]! < d[i - 1]!) : scanSorted ltInt d b i = scanSorted ltInt d b (i + 1) := by
  conv => lhs; unfold scanSorted
  rw [if_pos (by simpa [ltInt] using ⟨h, Int.not_lt.1 hl⟩)]
theorem sorted_halt (d : Array Int) (b i : Nat) (h : ¬ (i < b ∧ ¬ d[i]! < d[i - 1]!)) : scanSorted ltInt d b i = i := by
  unfold scanSorted
  rw [if_neg (by simpa [ltInt] using h)]
theorem down_go (d : Array Int) (j : Nat) (hl : d[j + 1]! < d[j]!) : shiftDown ltInt (j + 1) d = shiftDown ltInt j (swp d (j + 1) j) := by
  conv => lhs; unfold shiftDown
  rw [if_neg (by simp [ltInt, hl])]
theorem down_halt (d : Array Int) (j : Nat) (hl : ¬ d[j + 1]! < d[j]!) : shiftDown ltInt (j + 1) d = d := by
  unfold shiftDown
  rw [if_pos (by simpa [ltInt] using hl)]
theorem up_go (d : Array Int) (b j : Nat) (h : j < b) (hl : d[j]! < d[j - 1]!) : shiftUp ltInt b j d = shiftUp ltInt b (j + 1) (swp d j (j - 1)) := by
  conv => lhs; unfold shiftUp
  rw [if_pos h, if_neg (by simp [ltInt, hl])]
theorem up_halt (d : Array Int) (b j : Nat) (h : ¬ (j < b ∧ d[j]! < d[j - 1]!)) : shiftUp ltInt b j d = d := by
  unfold shiftUp
  by_cases h1 : j < b
  · rw [if_pos h1, if_pos (by simpa [ltInt] using fun h2 => h ⟨h1, h2⟩)]
  · rw [if_neg h1]
theorem down_size : ∀ (j : Nat) (d : Array Int), (shiftDown ltInt j d).size = d.size
  | 0, d => rfl
  | j + 1, d => by
    by_cases h : d[j + 1]! < d[j]!
    · rw [down_go d j h, down_size j, swp_size]
    · rw [down_halt d j h]
theorem up_size (b : Nat) : ∀ (m j : Nat) (d : Array Int), b - j ≤ m → (shiftUp ltInt b j d).size = d.size := by
  intro m
  induction m with
  | zero => intro j d h; rw [up_halt _ _ _ (fun h' => by omega)]
  | succ m ih =>
    intro j d h
    by_cases h1 : j < b ∧ d[j]! < d[j - 1]!
    · rw [up_go _ _ _ h1.1 h1.2, ih _ _ (by omega), swp_size]
    · rw [up_halt _ _ _ h1]
theorem fixDown_size (a i : Nat) (d : Array Int) : (fixDown ltInt a i d).size = d.size := by
  unfold fixDown
  split
  · exact down_size _ _
  · rfl
theorem fixUp_size (b i : Nat) (d : Array Int) : (fixUp ltInt b i d).size = d.size := by
  unfold fixUp
  split
  · exact up_size _ _ _ _ (Nat.le_refl _)
  · rfl

set_option maxRecDepth 100000 in
set_option maxHeartbeats 4000000 in
theorem pins26 (blk off n cap a b : Nat) (d : Array Int) (w : World) (hn : d.size = n) (hn2 : n ≤ 100000) (hab : a < b) (hbn : b ≤ n) (hH : Holds (Value.int .u16) w blk off d) :
    Calls Yba.prog 26 #[.slice (some ⟨blk, off, none⟩) n cap, .int .i64 a, .int .i64 b] w fun e w' => e = .returned (.bool (partialInsertionSort ltInt d a b).2) ∧ St w w' blk off (partialInsertionSort ltInt d a b).1 := by
  have H0 : Hid (St w w blk off d) := St.refl hH
  clear hH
  obtain ⟨R, hR⟩ : ∃ R, R = partialInsertionSort ltInt d a b := ⟨_, rfl⟩
  have HR : Hid (partialIns ltInt a b 5 (a + 1) d = R) := hR.symm
  rw [← hR]
  clear hR
  go_enter Yba.func26, Yba.ntmps26
  go_wp2
  go_loopg [7, 8, 9, 10] 5 (fun s x y _ _ wr => ∃ (i : Nat) (d' : Array Int), s ≤ 5 ∧ x = .int .i64 i ∧ y = .int .i64 ((5 - s : Nat) : Int) ∧ a < i ∧ i ≤ b ∧ d'.size = n ∧ partialIns ltInt a b s i d' = R ∧ St w wr blk off d')
  case atStart => exact ⟨a + 1, d, by omega, by go_num, rfl, by omega, by omega, hn, HR.out, H0.out⟩
  case round =>
    clear H0 HR
    obtain ⟨i0, d', hs, rfl, rfl, hai, hi0, hd', heq, hst⟩ := hrel
    have HE : Hid (partialIns ltInt a b gk i0 d' = R) := heq
    have HS : Hid (St w wr blk off d') := hst
    clear heq hst
    rcases Nat.eq_zero_or_pos gk with rfl | hgp
    · go_wp2
      go_ret
      rw [← HE.out]
      exact ⟨rfl, HS.out⟩
    · obtain ⟨s, rfl⟩ : ∃ s, gk = s + 1 := ⟨gk - 1, by omega⟩
      have hq := partialIns_succ (lt := ltInt) a b s i0 d'
      have h5 : ((5 - (s + 1) : Nat) : Int) < 5 := by omega
      obtain ⟨t5, ht5⟩ : ∃ t5, t5 = 5 - (s + 1) := ⟨_, rfl⟩
      rw [← ht5] at h5 ⊢
      have ht6 : t5 + s = 4 := by omega
      clear ht5
      have HQ : Hid (partialIns ltInt a b (s + 1) i0 d' = if scanSorted ltInt d' b i0 = b then (d', true) else if b - a < 50 then (d', false) else partialIns ltInt a b s (scanSorted ltInt d' b i0) (fixUp ltInt b (scanSorted ltInt d' b i0) (fixDown ltInt a (scanSorted ltInt d' b i0) (swp d' (scanSorted ltInt d' b i0) (scanSorted ltInt d' b i0 - 1))))) := hq
      clear hq
      go_upto_block 2 with fail
      go_cut [7] (fun x wx => x = .int .i64 ((scanSorted ltInt d' b i0 : Nat) : Int) ∧ i0 ≤ scanSorted ltInt d' b i0 ∧ scanSorted ltInt d' b i0 ≤ b ∧ St w wx blk off d')
      case first =>
        go_wp2
        go_loopw [7] (fun x wr => ∃ i : Nat, x = .int .i64 i ∧ i0 ≤ i ∧ i ≤ b ∧ scanSorted ltInt d' b i = scanSorted ltInt d' b i0 ∧ St w wr blk off d') (fun x _ => n + 2 - (intOf x).toNat)
        case atStart => exact ⟨i0, rfl, Nat.le_refl _, by omega, rfl, HS.out⟩
        case round =>
          clear HS
          obtain ⟨i, rfl, hi1, hi2, heq, hst⟩ := hrel
          have HEi : Hid (scanSorted ltInt d' b i = scanSorted ltInt d' b i0) := heq
          have HSi : Hid (St w wr blk off d') := hst
          clear heq
          by_cases hg : i < b
          · have ci := hst.cell i (by omega)
            obtain ⟨k, rfl⟩ : ∃ k, i = k + 1 := ⟨i - 1, by omega⟩
            have ca := hst.cell k (by omega)
            have hd : decide ((k : Int) + 1 < (b : Int)) = true := by simp; omega
            have bi : (k : Int) + 1 < n := by omega
            have ba : (k : Int) < n := by omega
            clear hst
            by_cases hl : d'[k + 1]! < d'[k]!
            · have HL : Hid (d'[k + 1]! < d'[k]!) := hl
              have hb : decide (d'[k + 1]! < d'[k]!) = true := by simpa using hl
              clear hl
              go_wp2
              go_quiet ((go_at_call 27; exact Calls.quiet_of_same (less27 _ _ _)))
              go_wp2
              go_meet
              case rel =>
                have hh : scanSorted ltInt d' b i0 = k + 1 := by rw [← HEi.out, sorted_halt d' b (k + 1) (by simpa using fun _ => HL.out)]
                rw [hh]
                exact ⟨by go_num, by omega, by omega, HSi.out.drewN _⟩
            · have HL : Hid (¬ d'[k + 1]! < d'[k]!) := hl
              have hb : decide (d'[k + 1]! < d'[k]!) = false := by simpa using hl
              clear hl
              go_wp2
              go_quiet ((go_at_call 27; exact Calls.quiet_of_same (less27 _ _ _)))
              go_wp2
              go_roundw
              case rel =>
                refine ⟨k + 1 + 1, by go_num, by omega, by omega, ?_, HSi.out.drewN _⟩
                rw [← HEi.out, sorted_go d' b (k + 1) hg (by simpa using HL.out)]
              case measure => simp [intOf]; omega
          · have hd : decide ((i : Int) < (b : Int)) = false := by simp; omega
            clear hst
            go_wp2
            go_quiet (fail)
            go_wp2
            go_meet
            case rel =>
              have hh : scanSorted ltInt d' b i0 = i := by rw [← HEi.out, sorted_halt d' b i (fun h => hg h.1)]
              rw [hh]
              exact ⟨rfl, by omega, by omega, HSi.out.drewN _⟩
      case rest =>
        obtain ⟨rfl, u1, u2, hst⟩ := hcut
        obtain ⟨i2, hi2⟩ : ∃ i2, i2 = scanSorted ltInt d' b i0 := ⟨_, rfl⟩
        rw [← hi2] at u1 u2 HQ ⊢
        have HS2 : Hid (St w wc blk off d') := hst
        clear hi2 HS
        by_cases hib : i2 = b
        · subst hib
          clear hst
          have e1 : ((i2 : Int) == (i2 : Int)) = true := by simp
          have HF : Hid (R = (d', true)) := by
            show _ = _
            rw [← HE.out, HQ.out, if_pos rfl]
          clear HQ HE
          go_wp2
          go_ret
          rw [HF.out]
          exact ⟨rfl, HS2.out⟩
        · have e1 : ((i2 : Int) == (b : Int)) = false := by simp; omega
          by_cases h50 : b - a < 50
          · clear hst
            go_wp2
            go_ret
            rw [← HE.out, HQ.out, if_neg hib, if_pos h50]
            exact ⟨rfl, HS2.out⟩
          · have HF : Hid (R = partialIns ltInt a b s i2 (fixUp ltInt b i2 (fixDown ltInt a i2 (swp d' i2 (i2 - 1))))) := by
              show _ = _
              rw [← HE.out, HQ.out, if_neg hib, if_neg h50]
            obtain ⟨k, rfl⟩ : ∃ k, i2 = k + 1 := ⟨i2 - 1, by omega⟩
            have c0 := hst.cell (k + 1) (by omega)
            have f0 := hst.froz (k + 1) (by omega)
            have c1 := hst.cell k (by omega)
            have f1 := hst.froz k (by omega)
            have b0 : (k : Int) + 1 < n := by omega
            have b1 : (k : Int) < n := by omega
            clear hst HQ HE
            go_upto_region 11 with fail
            go_cut [] (fun wx => St w wx blk off (swp d' (k + 1) k))
            case first =>
              go_region
              go_wp2
              go_meet
              case rel => exact HS2.out.drew.swap (k + 1) k (by omega) (by omega)
            case rest =>
              clear c0 f0 c1 f1 HS2
              have HS3 : Hid (St w wc blk off (swp d' (k + 1) k)) := hcut
              have hds : (swp d' (k + 1) k).size = n := by rw [swp_size]; exact hd'
              obtain ⟨d2, hd2⟩ : ∃ d2, d2 = swp d' (k + 1) k := ⟨_, rfl⟩
              have HF2 : Hid (R = partialIns ltInt a b s (k + 1) (fixUp ltInt b (k + 1) (fixDown ltInt a (k + 1) d2))) := by
                show _ = _
                rw [HF.out, hd2]
                rfl
              rw [← hd2] at HS3 hds
              clear hcut hd2 HF
              go_upto_if 61 with fail
              go_cut [9] (fun _ wx => St w wx blk off (fixDown ltInt a (k + 1) d2))
              case first =>
                by_cases h2 : k + 1 - a ≥ 2
                · have HX : Hid (fixDown ltInt a (k + 1) d2 = shiftDown ltInt k d2) := by
                    show _ = _
                    unfold fixDown
                    rw [if_pos h2]
                    rfl
                  go_wp2
                  go_loopw [9] (fun x wr => ∃ (j : Nat) (e : Array Int), x = .int .i64 j ∧ j ≤ k ∧ e.size = n ∧ shiftDown ltInt j e = shiftDown ltInt k d2 ∧ St w wr blk off e) (fun x _ => (intOf x).toNat)
                  case atStart => exact ⟨k, d2, by go_num, Nat.le_refl _, hds, rfl, HS3.out⟩
                  case round =>
                    clear HS3
                    obtain ⟨j, e, rfl, hj, he, heq, hst⟩ := hrel
                    have HEj : Hid (shiftDown ltInt j e = shiftDown ltInt k d2) := heq
                    have HSj : Hid (St w wr blk off e) := hst
                    clear heq
                    cases j with
                    | zero =>
                      clear hst
                      go_wp2
                      go_meet
                      case rel =>
                        rw [HX.out, ← HEj.out]
                        exact HSj.out
                    | succ m =>
                      have c0 := hst.cell (m + 1) (by omega)
                      have f0 := hst.froz (m + 1) (by omega)
                      have c1 := hst.cell m (by omega)
                      have f1 := hst.froz m (by omega)
                      have q0 : (m : Int) + 1 < n := by omega
                      have q1 : (m : Int) < n := by omega
                      clear hst
                      by_cases hl : e[m + 1]! < e[m]!
                      · have HL : Hid (e[m + 1]! < e[m]!) := hl
                        have hb : decide (e[m + 1]! < e[m]!) = true := by simpa using hl
                        clear hl
                        go_wp2
                        go_quiet ((go_at_call 27; exact Calls.quiet_of_same (less27 _ _ _)))
                        go_wp2
                        go_region
                        go_wp2
                        go_roundw
                        case rel =>
                          refine ⟨m, swp e (m + 1) m, by go_num, by omega, by rw [swp_size]; exact he, ?_, (HSj.out.drewN _).swap (m + 1) m (by omega) (by omega)⟩
                          rw [← HEj.out, down_go e m HL.out]
                        case measure => simp [intOf]
                      · have HL : Hid (¬ e[m + 1]! < e[m]!) := hl
                        have hb : decide (e[m + 1]! < e[m]!) = false := by simpa using hl
                        clear hl
                        go_wp2
                        go_quiet ((go_at_call 27; exact Calls.quiet_of_same (less27 _ _ _)))
                        go_wp2
                        go_meet
                        case rel =>
                          rw [HX.out, ← HEj.out, down_halt e m (by have h9 := HL.out; omega)]
                          exact HSj.out.drewN _
                · have HX : Hid (fixDown ltInt a (k + 1) d2 = d2) := by
                    show _ = _
                    unfold fixDown
                    rw [if_neg h2]
                  go_wp2
                  go_meet
                  case rel =>
                    rw [HX.out]
                    exact HS3.out
              case rest =>
                have HS4 : Hid (St w wc blk off (fixDown ltInt a (k + 1) d2)) := hcut
                have hds3 : (fixDown ltInt a (k + 1) d2).size = n := by rw [fixDown_size]; exact hds
                obtain ⟨d3, hd3⟩ : ∃ d3, d3 = fixDown ltInt a (k + 1) d2 := ⟨_, rfl⟩
                rw [← hd3] at HS4 hds3 HF2
                clear hcut hd3 HS3
                go_upto_if 98 with fail
                by_cases h2 : b - (k + 1) ≥ 2
                · have HX : Hid (fixUp ltInt b (k + 1) d3 = shiftUp ltInt b (k + 1 + 1) d3) := by
                    show _ = _
                    unfold fixUp
                    rw [if_pos h2]
                  go_wp2
                  go_loopw [10] (fun x wr => ∃ (j : Nat) (e : Array Int), x = .int .i64 ((j : Int) + 1) ∧ k + 1 ≤ j ∧ j < b ∧ e.size = n ∧ shiftUp ltInt b (j + 1) e = shiftUp ltInt b (k + 1 + 1) d3 ∧ St w wr blk off e) (fun x _ => n + 2 - (intOf x).toNat)
                  case atStart => exact ⟨k + 1, d3, by go_num, Nat.le_refl _, by omega, hds3, rfl, HS4.out⟩
                  case round =>
                    clear HS4
                    obtain ⟨m, e, rfl, hj, hjb, he, heq, hst⟩ := hrel
                    have HEj : Hid (shiftUp ltInt b (m + 1) e = shiftUp ltInt b (k + 1 + 1) d3) := heq
                    have HSj : Hid (St w wr blk off e) := hst
                    clear heq
                    by_cases hg : m + 1 < b
                    · have c0 := hst.cell (m + 1) (by omega)
                      have f0 := hst.froz (m + 1) (by omega)
                      have c1 := hst.cell m (by omega)
                      have f1 := hst.froz m (by omega)
                      have q0 : (m : Int) + 1 < n := by omega
                      have q1 : (m : Int) < n := by omega
                      clear hst
                      by_cases hl : e[m + 1]! < e[m]!
                      · have HL : Hid (e[m + 1]! < e[m]!) := hl
                        have hb : decide (e[m + 1]! < e[m]!) = true := by simpa using hl
                        clear hl
                        go_wp2
                        go_quiet ((go_at_call 27; exact Calls.quiet_of_same (less27 _ _ _)))
                        go_wp2
                        go_region
                        go_wp2
                        go_roundw
                        case rel =>
                          refine ⟨m + 1, swp e (m + 1) m, by go_num, by omega, by omega, by rw [swp_size]; exact he, ?_, (HSj.out.drewN _).swap (m + 1) m (by omega) (by omega)⟩
                          rw [← HEj.out, up_go e b (m + 1) hg (by simpa using HL.out)]
                          rfl
                        case measure => simp [intOf]; omega
                      · have HL : Hid (¬ e[m + 1]! < e[m]!) := hl
                        have hb : decide (e[m + 1]! < e[m]!) = false := by simpa using hl
                        clear hl
                        go_wp2
                        go_quiet ((go_at_call 27; exact Calls.quiet_of_same (less27 _ _ _)))
                        go_wp2
                        go_roundg s
                        case measure => omega
                        case rel =>
                          refine ⟨k + 1, fixUp ltInt b (k + 1) d3, by omega, by go_num, by go_num, by omega, by omega, by rw [fixUp_size]; exact hds3, HF2.out.symm, ?_⟩
                          rw [HX.out, ← HEj.out, up_halt e b (m + 1) (by simpa using fun _ => HL.out)]
                          exact HSj.out.drewN _
                    · clear hst
                      go_wp2
                      go_roundg s
                      case measure => omega
                      case rel =>
                        refine ⟨k + 1, fixUp ltInt b (k + 1) d3, by omega, by go_num, by go_num, by omega, by omega, by rw [fixUp_size]; exact hds3, HF2.out.symm, ?_⟩
                        rw [HX.out, ← HEj.out, up_halt e b (m + 1) (fun h => hg h.1)]
                        exact HSj.out
                · have HX : Hid (fixUp ltInt b (k + 1) d3 = d3) := by
                    show _ = _
                    unfold fixUp
                    rw [if_neg h2]
                  go_wp2
                  go_roundg s
                  case measure => omega
                  case rel =>
                    refine ⟨k + 1, fixUp ltInt b (k + 1) d3, by omega, by go_num, by go_num, by omega, by omega, by rw [fixUp_size]; exact hds3, HF2.out.symm, ?_⟩
                    rw [HX.out]
                    exact HS4.out
end Go.Proofs.Ybulkabsy.So
