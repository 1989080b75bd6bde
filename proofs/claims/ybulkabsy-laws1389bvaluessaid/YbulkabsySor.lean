import Derived.Test.YbulkabsySop
namespace Go.Proofs.Ybulkabsy.So
open Go.RowKit Go.Sort Go.Proofs.Ybulkabsy.Srch
set_option linter.unusedVariables false
set_option linter.unusedSimpArgs false

set_option maxRecDepth 100000 in
set_option maxHeartbeats 4000000 in
theorem part29 (blk off n cap a b pivot : Nat) (d : Array Int) (w : World) (hn : d.size = n) (hn2 : n ≤ 100000) (hap : a ≤ pivot) (hpb : pivot < b) (hbn : b ≤ n) (hH : Holds (Value.int .u16) w blk off d) :
    Calls Yba.prog 29 #[.slice (some ⟨blk, off, none⟩) n cap, .int .i64 a, .int .i64 b, .int .i64 pivot] w fun e w' => ∃ f, e = .returned (.tuple #[.int .i64 (partition ltInt d a b pivot).1, .bool f]) ∧ St w w' blk off (partition ltInt d a b pivot).2.2 := by
  have hst0 : St w w blk off d := St.refl hH
  have H0 : Hid (St w w blk off d) := hst0
  have c0 := hst0.cell a (by omega)
  have f0 := hst0.froz a (by omega)
  have c1 := hst0.cell pivot (by omega)
  have f1 := hst0.froz pivot (by omega)
  have b0 : (a : Int) < n := by omega
  have b1 : (pivot : Int) < n := by omega
  have hrange := partition_holds ltInt swo_ltInt d a b pivot hap hpb (by omega)
  have hr1 : (partition ltInt d a b pivot).1 < n := by have := hrange.2.1; omega
  rw [partition_fst] at hr1
  clear hH hst0 hrange
  go_enter Yba.func29, Yba.ntmps29
  go_upto_region 1 with fail
  go_cut [] (fun wx => St w wx blk off (swp d a pivot))
  case first =>
    by_cases hm : pivot = a
    · subst hm
      go_region
      go_wp2
      go_meet
      case rel => exact H0.out.drew.swap pivot pivot (by omega) (by omega)
    · have hm1 : ¬ a = pivot := fun h => hm h.symm
      go_region
      go_wp2
      go_meet
      case rel => exact H0.out.drew.swap a pivot (by omega) (by omega)
  case rest =>
    have H1 : Hid (St w wc blk off (swp d a pivot)) := hcut
    clear hcut c0 f0 c1 f1 H0
    have hds : (swp d a pivot).size = n := by rw [swp_size]; exact hn
    obtain ⟨dd, hdd⟩ : ∃ dd, dd = swp d a pivot := ⟨_, rfl⟩
    have HDD : Hid (dd = swp d a pivot) := hdd
    rw [← hdd] at H1 hds hr1
    clear hdd
    go_upto_block 0 with fail
    obtain ⟨bm, hbm⟩ : ∃ bm, bm = b - 1 := ⟨_, rfl⟩
    obtain ⟨am, ham⟩ : ∃ am, am = a + 1 := ⟨_, rfl⟩
    have HBM : Hid (bm = b - 1) := hbm
    have HAM : Hid (am = a + 1) := ham
    have hbm1 : bm < n := by omega
    have ham1 : a < am := by omega
    have ham2 : am ≤ n := by omega
    rw [show ((b : Int) - 1) = (bm : Int) from by omega, show ((a : Int) + 1) = (am : Int) from by omega]
    rw [← hbm, ← ham] at hr1
    clear hbm ham
    go_upto_block 0 with fail
    go_cut [10] (fun x wx => x = .int .i64 ((scanUp (fun x => ltInt x dd[a]!) dd bm am : Nat) : Int) ∧ St w wx blk off dd)
    case first =>
      go_wp2
      go_loopw [10] (fun x wr => ∃ i : Nat, x = .int .i64 i ∧ am ≤ i ∧ i ≤ n + 1 ∧ scanUp (fun x => ltInt x dd[a]!) dd bm i = scanUp (fun x => ltInt x dd[a]!) dd bm am ∧ St w wr blk off dd) (fun x _ => n + 2 - (intOf x).toNat)
      case atStart => exact ⟨am, rfl, Nat.le_refl _, by omega, rfl, H1.out⟩
      case round =>
        clear H1
        obtain ⟨i, rfl, hi1, hi2, heq, hst⟩ := hrel
        have HEi : Hid (scanUp (fun x => ltInt x dd[a]!) dd bm i = scanUp (fun x => ltInt x dd[a]!) dd bm am) := heq
        have HSi : Hid (St w wr blk off dd) := hst
        clear heq
        by_cases hg : i ≤ bm
        · have ci := hst.cell i (by omega)
          have ca := hst.cell a (by omega)
          have hd : decide ((i : Int) ≤ (bm : Int)) = true := by simp; omega
          have bi : (i : Int) < n := by omega
          have ba : (a : Int) < n := by omega
          clear hst
          by_cases hl : dd[i]! < dd[a]!
          · have HL : Hid (dd[i]! < dd[a]!) := hl
            have hb : decide (dd[i]! < dd[a]!) = true := by simpa using hl
            clear hl
            go_wp2
            go_quiet ((go_at_call 27; exact Calls.quiet_of_same (less27 _ _ _)))
            go_wp2
            go_roundw
            case rel =>
              refine ⟨i + 1, by go_num, by omega, by omega, ?_, HSi.out.drewN _⟩
              rw [← HEi.out, scanUp_go (fun x => ltInt x dd[a]!) dd bm i hg (by simpa [ltInt] using HL.out)]
            case measure => simp [intOf]; omega
          · have HL : Hid (¬ dd[i]! < dd[a]!) := hl
            have hb : decide (dd[i]! < dd[a]!) = false := by simpa using hl
            clear hl
            go_wp2
            go_quiet ((go_at_call 27; exact Calls.quiet_of_same (less27 _ _ _)))
            go_wp2
            go_meet
            case rel => exact ⟨by rw [← HEi.out, scanUp_halt (fun x => ltInt x dd[a]!) dd bm i (by simpa [ltInt] using fun _ => HL.out)], HSi.out.drewN _⟩
        · have hd : decide ((i : Int) ≤ (bm : Int)) = false := by simp; omega
          clear hst
          go_wp2
          go_quiet (fail)
          go_wp2
          go_meet
          case rel => exact ⟨by rw [← HEi.out, scanUp_halt _ _ _ _ (fun h => hg h.1)], HSi.out.drewN _⟩
    case rest =>
      obtain ⟨rfl, hst⟩ := hcut
      have u1 := scanUp_ge (fun x => ltInt x dd[a]!) dd bm am
      have u2 := scanUp_top (fun x => ltInt x dd[a]!) dd n bm am ham2 hbm1
      obtain ⟨i2, hi2⟩ : ∃ i2, i2 = (scanUp (fun x => ltInt x dd[a]!) dd bm am) := ⟨_, rfl⟩
      rw [← hi2] at u1 u2 ⊢
      have HI2 : Hid (i2 = (scanUp (fun x => ltInt x dd[a]!) dd bm am)) := hi2
      have HS2 : Hid (St w wc blk off dd) := hst
      clear hi2 hst H1
      go_upto_block 2 with fail
      go_cut [11] (fun x wx => x = .int .i64 ((scanDown (fun x => !ltInt x dd[a]!) dd i2 bm : Nat) : Int) ∧ St w wx blk off dd)
      case first =>
        go_wp2
        go_loopw [11] (fun x wr => ∃ j : Nat, x = .int .i64 j ∧ j ≤ bm ∧ scanDown (fun x => !ltInt x dd[a]!) dd i2 j = scanDown (fun x => !ltInt x dd[a]!) dd i2 bm ∧ St w wr blk off dd) (fun x _ => (intOf x).toNat)
        case atStart => exact ⟨bm, rfl, Nat.le_refl _, rfl, HS2.out⟩
        case round =>
          clear HS2
          obtain ⟨j, rfl, hj1, heq, hst⟩ := hrel
          have HEi : Hid (scanDown (fun x => !ltInt x dd[a]!) dd i2 j = scanDown (fun x => !ltInt x dd[a]!) dd i2 bm) := heq
          have HSi : Hid (St w wr blk off dd) := hst
          clear heq
          by_cases hg : i2 ≤ j
          · have ci := hst.cell j (by omega)
            have ca := hst.cell a (by omega)
            have hd : decide ((i2 : Int) ≤ (j : Int)) = true := by simp; omega
            have bi : (j : Int) < n := by omega
            have ba : (a : Int) < n := by omega
            clear hst
            by_cases hl : dd[j]! < dd[a]!
            · have HL : Hid (dd[j]! < dd[a]!) := hl
              have hb : decide (dd[j]! < dd[a]!) = true := by simpa using hl
              clear hl
              go_wp2
              go_quiet ((go_at_call 27; exact Calls.quiet_of_same (less27 _ _ _)))
              go_wp2
              go_meet
              case rel => exact ⟨by rw [← HEi.out, scanDown_halt (fun x => !ltInt x dd[a]!) dd i2 j (by simpa [ltInt] using fun _ => HL.out)], HSi.out.drewN _⟩
            · have HL : Hid (¬ dd[j]! < dd[a]!) := hl
              have hb : decide (dd[j]! < dd[a]!) = false := by simpa using hl
              clear hl
              go_wp2
              go_quiet ((go_at_call 27; exact Calls.quiet_of_same (less27 _ _ _)))
              go_wp2
              go_roundw
              case rel =>
                refine ⟨j - 1, by go_num, by omega, ?_, HSi.out.drewN _⟩
                rw [← HEi.out, scanDown_go (fun x => !ltInt x dd[a]!) dd i2 j hg (by omega) (by simpa [ltInt] using HL.out)]
              case measure => simp [intOf]; omega
          · have hd : decide ((i2 : Int) ≤ (j : Int)) = false := by simp; omega
            clear hst
            go_wp2
            go_quiet (fail)
            go_wp2
            go_meet
            case rel => exact ⟨by rw [← HEi.out, scanDown_halt _ _ _ _ (fun h => hg h.1)], HSi.out.drewN _⟩
      case rest =>
        obtain ⟨rfl, hst⟩ := hcut
        have v1 := scanDown_le (fun x => !ltInt x dd[a]!) dd i2 bm
        obtain ⟨j2, hj2⟩ : ∃ j2, j2 = scanDown (fun x => !ltInt x dd[a]!) dd i2 bm := ⟨_, rfl⟩
        rw [← hj2] at v1 ⊢
        have HS3 : Hid (St w wc blk off dd) := hst
        have heqn := partLoop_eq ltInt a am bm dd
        rw [← HI2.out, ← hj2] at heqn
        have HQ : Hid (partLoop ltInt a am bm dd = if i2 > j2 then (j2, dd) else partLoop ltInt a (i2 + 1) (j2 - 1) (swp dd i2 j2)) := heqn
        clear hj2 heqn HS2
        have ca := hst.cell a (by omega)
        have fa := hst.froz a (by omega)
        have c1 := hst.cell j2 (by omega)
        have f1 := hst.froz j2 (by omega)
        have e0 : (a : Int) < n := by omega
        have e1 : (j2 : Int) < n := by omega
        have HFST : Hid ((partition ltInt d a b pivot).1 = (partLoop ltInt a am bm dd).1) := by
          show _ = _
          rw [partition_fst, ← HBM.out, ← HAM.out, ← HDD.out]
        have HARR : Hid ((partition ltInt d a b pivot).2.2 = swp (partLoop ltInt a am bm dd).2 (partLoop ltInt a am bm dd).1 a) := by
          show _ = _
          rw [partition_arr, ← HBM.out, ← HAM.out, ← HDD.out]
        by_cases hij : j2 < i2
        · clear hst hr1
          have HF : Hid (partLoop ltInt a am bm dd = (j2, dd)) := by
            show _ = _
            rw [HQ.out, if_pos hij]
          go_upto_region 8 with fail
          go_cut [] (fun wx => St w wx blk off (swp dd j2 a))
          case first =>
            by_cases hm : j2 = a
            · subst hm
              go_region
              go_wp2
              go_meet
              case rel => exact HS3.out.drew.swap j2 j2 (by omega) (by omega)
            · have hm1 : ¬ a = j2 := fun h => hm h.symm
              go_region
              go_wp2
              go_meet
              case rel => exact HS3.out.drew.swap j2 a (by omega) (by omega)
          case rest =>
            have HX : Hid (St w wc blk off (swp dd j2 a)) := hcut
            clear hcut
            go_wp2
            refine bodyPost_ret (v := .tuple #[.int .i64 j2, .bool true]) (by simp [results, Yba.results29, go_sem]) rfl ⟨true, ?_, ?_⟩
            · rw [HFST.out, HF.out]
            · rw [HARR.out, HF.out]
              exact HX.out
        · have c0 := hst.cell i2 (by omega)
          have f0 := hst.froz i2 (by omega)
          have e2 : (i2 : Int) < n := by omega
          clear hst
          have HF : Hid (partLoop ltInt a am bm dd = partLoop ltInt a (i2 + 1) (j2 - 1) (swp dd i2 j2)) := by
            show _ = _
            rw [HQ.out, if_neg hij]
          go_upto_region 10 with fail
          go_cut [] (fun wx => St w wx blk off (swp dd i2 j2))
          case first =>
            by_cases hm : i2 = j2
            · subst hm
              go_region
              go_wp2
              go_meet
              case rel => exact HS3.out.drew.swap i2 i2 (by omega) (by omega)
            · have hm1 : ¬ j2 = i2 := fun h => hm h.symm
              go_region
              go_wp2
              go_meet
              case rel => exact HS3.out.drew.swap i2 j2 (by omega) (by omega)
          case rest =>
            have HX : Hid (St w wc blk off (swp dd i2 j2)) := hcut
            clear hcut ca fa c0 f0 c1 f1
            have hds2 : (swp dd i2 j2).size = n := by rw [swp_size]; exact hds
            obtain ⟨R, hR⟩ : ∃ R, R = partLoop ltInt a am bm dd := ⟨_, rfl⟩
            rw [← hR] at HF HARR HFST hr1
            clear hR
            go_upto_block 4 with fail
            go_cut [10, 11] (fun _ y wx => y = .int .i64 (R.1 : Nat) ∧ R.2.size = n ∧ St w wx blk off R.2)
            case first =>
              go_wp2
              go_loopg [10, 11] (n + 2 - i2) (fun gk x y wr => ∃ (i j : Nat) (d' : Array Int), x = .int .i64 i ∧ y = .int .i64 j ∧ a < i ∧ i ≤ n ∧ j < n ∧ i + gk = n + 3 ∧ d'.size = n ∧ partLoop ltInt a i j d' = R ∧ St w wr blk off d')
              case atStart => exact ⟨i2 + 1, j2 - 1, swp dd i2 j2, by go_num, by go_num, by omega, by omega, by omega, by omega, hds2, HF.out.symm, HX.out⟩
              case round =>
                clear HX
                obtain ⟨i0, j0, d', rfl, rfl, hai, hi0, hj0, hgk, hd', heq, hst⟩ := hrel
                have HE : Hid (partLoop ltInt a i0 j0 d' = R) := heq
                have HS : Hid (St w wr blk off d') := hst
                clear heq hst
                go_upto_block 6 with fail
                go_cut [10] (fun x wx => x = .int .i64 ((scanUp (fun x => ltInt x d'[a]!) d' j0 i0 : Nat) : Int) ∧ St w wx blk off d')
                case first =>
                  go_wp2
                  go_loopw [10] (fun x wr => ∃ i : Nat, x = .int .i64 i ∧ i0 ≤ i ∧ i ≤ n + 1 ∧ scanUp (fun x => ltInt x d'[a]!) d' j0 i = scanUp (fun x => ltInt x d'[a]!) d' j0 i0 ∧ St w wr blk off d') (fun x _ => n + 2 - (intOf x).toNat)
                  case atStart => exact ⟨i0, rfl, Nat.le_refl _, by omega, rfl, HS.out⟩
                  case round =>
                    clear HS
                    obtain ⟨i, rfl, hi1, hi2, heq, hst⟩ := hrel
                    have HEi : Hid (scanUp (fun x => ltInt x d'[a]!) d' j0 i = scanUp (fun x => ltInt x d'[a]!) d' j0 i0) := heq
                    have HSi : Hid (St w wr blk off d') := hst
                    clear heq
                    by_cases hg : i ≤ j0
                    · have ci := hst.cell i (by omega)
                      have ca := hst.cell a (by omega)
                      have hd : decide ((i : Int) ≤ (j0 : Int)) = true := by simp; omega
                      have bi : (i : Int) < n := by omega
                      have ba : (a : Int) < n := by omega
                      clear hst
                      by_cases hl : d'[i]! < d'[a]!
                      · have HL : Hid (d'[i]! < d'[a]!) := hl
                        have hb : decide (d'[i]! < d'[a]!) = true := by simpa using hl
                        clear hl
                        go_wp2
                        go_quiet ((go_at_call 27; exact Calls.quiet_of_same (less27 _ _ _)))
                        go_wp2
                        go_roundw
                        case rel =>
                          refine ⟨i + 1, by go_num, by omega, by omega, ?_, HSi.out.drewN _⟩
                          rw [← HEi.out, scanUp_go (fun x => ltInt x d'[a]!) d' j0 i hg (by simpa [ltInt] using HL.out)]
                        case measure => simp [intOf]; omega
                      · have HL : Hid (¬ d'[i]! < d'[a]!) := hl
                        have hb : decide (d'[i]! < d'[a]!) = false := by simpa using hl
                        clear hl
                        go_wp2
                        go_quiet ((go_at_call 27; exact Calls.quiet_of_same (less27 _ _ _)))
                        go_wp2
                        go_meet
                        case rel => exact ⟨by rw [← HEi.out, scanUp_halt (fun x => ltInt x d'[a]!) d' j0 i (by simpa [ltInt] using fun _ => HL.out)], HSi.out.drewN _⟩
                    · have hd : decide ((i : Int) ≤ (j0 : Int)) = false := by simp; omega
                      clear hst
                      go_wp2
                      go_quiet (fail)
                      go_wp2
                      go_meet
                      case rel => exact ⟨by rw [← HEi.out, scanUp_halt _ _ _ _ (fun h => hg h.1)], HSi.out.drewN _⟩
                case rest =>
                  obtain ⟨rfl, hst⟩ := hcut
                  have u3 := scanUp_ge (fun x => ltInt x d'[a]!) d' j0 i0
                  have u4 := scanUp_top (fun x => ltInt x d'[a]!) d' n j0 i0 hi0 hj0
                  obtain ⟨k2, hk2⟩ : ∃ k2, k2 = (scanUp (fun x => ltInt x d'[a]!) d' j0 i0) := ⟨_, rfl⟩
                  rw [← hk2] at u3 u4 ⊢
                  have HK2 : Hid (k2 = (scanUp (fun x => ltInt x d'[a]!) d' j0 i0)) := hk2
                  have HS4 : Hid (St w wc blk off d') := hst
                  clear hk2 hst HS
                  go_upto_block 8 with fail
                  go_cut [11] (fun x wx => x = .int .i64 ((scanDown (fun x => !ltInt x d'[a]!) d' k2 j0 : Nat) : Int) ∧ St w wx blk off d')
                  case first =>
                    go_wp2
                    go_loopw [11] (fun x wr => ∃ j : Nat, x = .int .i64 j ∧ j ≤ j0 ∧ scanDown (fun x => !ltInt x d'[a]!) d' k2 j = scanDown (fun x => !ltInt x d'[a]!) d' k2 j0 ∧ St w wr blk off d') (fun x _ => (intOf x).toNat)
                    case atStart => exact ⟨j0, rfl, Nat.le_refl _, rfl, HS4.out⟩
                    case round =>
                      clear HS4
                      obtain ⟨j, rfl, hj1, heq, hst⟩ := hrel
                      have HEi : Hid (scanDown (fun x => !ltInt x d'[a]!) d' k2 j = scanDown (fun x => !ltInt x d'[a]!) d' k2 j0) := heq
                      have HSi : Hid (St w wr blk off d') := hst
                      clear heq
                      by_cases hg : k2 ≤ j
                      · have ci := hst.cell j (by omega)
                        have ca := hst.cell a (by omega)
                        have hd : decide ((k2 : Int) ≤ (j : Int)) = true := by simp; omega
                        have bi : (j : Int) < n := by omega
                        have ba : (a : Int) < n := by omega
                        clear hst
                        by_cases hl : d'[j]! < d'[a]!
                        · have HL : Hid (d'[j]! < d'[a]!) := hl
                          have hb : decide (d'[j]! < d'[a]!) = true := by simpa using hl
                          clear hl
                          go_wp2
                          go_quiet ((go_at_call 27; exact Calls.quiet_of_same (less27 _ _ _)))
                          go_wp2
                          go_meet
                          case rel => exact ⟨by rw [← HEi.out, scanDown_halt (fun x => !ltInt x d'[a]!) d' k2 j (by simpa [ltInt] using fun _ => HL.out)], HSi.out.drewN _⟩
                        · have HL : Hid (¬ d'[j]! < d'[a]!) := hl
                          have hb : decide (d'[j]! < d'[a]!) = false := by simpa using hl
                          clear hl
                          go_wp2
                          go_quiet ((go_at_call 27; exact Calls.quiet_of_same (less27 _ _ _)))
                          go_wp2
                          go_roundw
                          case rel =>
                            refine ⟨j - 1, by go_num, by omega, ?_, HSi.out.drewN _⟩
                            rw [← HEi.out, scanDown_go (fun x => !ltInt x d'[a]!) d' k2 j hg (by omega) (by simpa [ltInt] using HL.out)]
                          case measure => simp [intOf]; omega
                      · have hd : decide ((k2 : Int) ≤ (j : Int)) = false := by simp; omega
                        clear hst
                        go_wp2
                        go_quiet (fail)
                        go_wp2
                        go_meet
                        case rel => exact ⟨by rw [← HEi.out, scanDown_halt _ _ _ _ (fun h => hg h.1)], HSi.out.drewN _⟩
                  case rest =>
                    obtain ⟨rfl, hst⟩ := hcut
                    have v2 := scanDown_le (fun x => !ltInt x d'[a]!) d' k2 j0
                    obtain ⟨m2, hm2⟩ : ∃ m2, m2 = scanDown (fun x => !ltInt x d'[a]!) d' k2 j0 := ⟨_, rfl⟩
                    rw [← hm2] at v2 ⊢
                    have HS5 : Hid (St w wc blk off d') := hst
                    have heqn := partLoop_eq ltInt a i0 j0 d'
                    rw [← HK2.out, ← hm2] at heqn
                    have HQ2 : Hid (partLoop ltInt a i0 j0 d' = if k2 > m2 then (m2, d') else partLoop ltInt a (k2 + 1) (m2 - 1) (swp d' k2 m2)) := heqn
                    clear hm2 heqn HS4
                    by_cases hkm : m2 < k2
                    · clear hst
                      have HF2 : Hid (R = (m2, d')) := by
                        show _ = _
                        rw [← HE.out, HQ2.out, if_pos hkm]
                      go_wp2
                      go_meet
                      case rel =>
                        rw [HF2.out]
                        exact ⟨rfl, hd', HS5.out⟩
                    · have c0 := hst.cell k2 (by omega)
                      have f0 := hst.froz k2 (by omega)
                      have c1 := hst.cell m2 (by omega)
                      have f1 := hst.froz m2 (by omega)
                      have e3 : (k2 : Int) < n := by omega
                      have e4 : (m2 : Int) < n := by omega
                      clear hst
                      by_cases hm : k2 = m2
                      · subst hm
                        go_wp2
                        go_region
                        go_wp2
                        go_roundg (gk - 1 - (k2 - i0))
                        case measure => omega
                        case rel =>
                          refine ⟨k2 + 1, k2 - 1, swp d' k2 k2, by go_num, by go_num, by omega, by omega, by omega, by omega, by rw [swp_size]; exact hd', ?_, HS5.out.drew.swap k2 k2 (by omega) (by omega)⟩
                          rw [← HE.out, HQ2.out, if_neg hkm]
                      · have hm1 : ¬ m2 = k2 := fun h => hm h.symm
                        go_wp2
                        go_region
                        go_wp2
                        go_roundg (gk - 1 - (k2 - i0))
                        case measure => omega
                        case rel =>
                          refine ⟨k2 + 1, m2 - 1, swp d' k2 m2, by go_num, by go_num, by omega, by omega, by omega, by omega, by rw [swp_size]; exact hd', ?_, HS5.out.drew.swap k2 m2 (by omega) (by omega)⟩
                          rw [← HE.out, HQ2.out, if_neg hkm]
            case rest =>
              obtain ⟨rfl, hRs, hst⟩ := hcut
              obtain ⟨r1, r2⟩ := R
              simp only at hr1 hRs hst HFST HARR ⊢
              have HS6 : Hid (St w wc blk off r2) := hst
              have c0 := hst.cell a (by omega)
              have f0 := hst.froz a (by omega)
              have c1 := hst.cell r1 (by omega)
              have f1 := hst.froz r1 (by omega)
              have e3 : (r1 : Int) < n := by omega
              have HRs : Hid (r2.size = n) := hRs
              have Hr1 : Hid (r1 < n) := hr1
              clear hst HX hRs hr1
              go_upto_region 21 with fail
              go_cut [] (fun wx => St w wx blk off (swp r2 r1 a))
              case first =>
                by_cases hm : r1 = a
                · subst hm
                  go_region
                  go_wp2
                  go_meet
                  case rel => exact HS6.out.drew.swap r1 r1 (by have h1 := HRs.out; have h2 := Hr1.out; omega) (by have h1 := HRs.out; have h2 := Hr1.out; omega)
                · have hm1 : ¬ a = r1 := fun h => hm h.symm
                  go_region
                  go_wp2
                  go_meet
                  case rel => exact HS6.out.drew.swap r1 a (by have h1 := HRs.out; have h2 := Hr1.out; omega) (by have h1 := HRs.out; have h2 := Hr1.out; omega)
              case rest =>
                have HX : Hid (St w wc blk off (swp r2 r1 a)) := hcut
                clear hcut
                go_wp2
                refine bodyPost_ret (v := .tuple #[.int .i64 r1, .bool false]) (by simp [results, Yba.results29, go_sem]) rfl ⟨false, ?_, ?_⟩
                · rw [HFST.out]
                · rw [HARR.out]
                  exact HX.out
end Go.Proofs.Ybulkabsy.So
