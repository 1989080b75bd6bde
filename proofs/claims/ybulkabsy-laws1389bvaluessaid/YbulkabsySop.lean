import Derived.Test.YbulkabsySo
namespace Go.Proofs.Ybulkabsy.So
open Go.RowKit Go.Sort Go.Proofs.Ybulkabsy.Srch
set_option linter.unusedVariables false
set_option linter.unusedSimpArgs false

theorem scanUp_go (p : Int → Bool) (d : Array Int) (j i : Nat) (h : i ≤ j) (hp : p d[i]! = true) : scanUp p d j i = scanUp p d j (i + 1) := by
  conv => lhs; unfold scanUp
  rw [if_pos (by simp [h, hp])]
theorem scanUp_halt (p : Int → Bool) (d : Array Int) (j i : Nat) (h : ¬ (i ≤ j ∧ p d[i]! = true)) : scanUp p d j i = i := by
  unfold scanUp
  rw [if_neg (by simpa using h)]
theorem scanUp_top (p : Int → Bool) (d : Array Int) (n j i : Nat) (hi : i ≤ n) (hj : j < n) : scanUp p d j i ≤ n := by
  by_cases h : i ≤ j + 1
  · have := (scanUp_spec p d j _ i rfl).2.1 h
    omega
  · rw [scanUp_halt _ _ _ _ (fun h' => by omega)]
    exact hi
theorem scanDown_go (p : Int → Bool) (d : Array Int) (i j : Nat) (h : i ≤ j) (hi : 1 ≤ i) (hp : p d[j]! = true) : scanDown p d i j = scanDown p d i (j - 1) := by
  obtain ⟨k, rfl⟩ : ∃ k, j = k + 1 := ⟨j - 1, by omega⟩
  conv => lhs; unfold scanDown
  rw [if_pos (by simp [h, hp])]
  rfl
theorem scanDown_halt (p : Int → Bool) (d : Array Int) (i j : Nat) (h : ¬ (i ≤ j ∧ p d[j]! = true)) : scanDown p d i j = j := by
  cases j with
  | zero => rfl
  | succ k =>
    unfold scanDown
    rw [if_neg (by simpa using h)]

set_option maxRecDepth 100000 in
set_option maxHeartbeats 2000000 in
theorem parteq28 (blk off n cap a b pivot : Nat) (d : Array Int) (w : World) (hn : d.size = n) (hn2 : n ≤ 100000) (hap : a ≤ pivot) (hpb : pivot < b) (hbn : b ≤ n) (hH : Holds (Value.int .u16) w blk off d) :
    Calls Yba.prog 28 #[.slice (some ⟨blk, off, none⟩) n cap, .int .i64 a, .int .i64 b, .int .i64 pivot] w fun e w' => e = .returned (.int .i64 (partitionEqual ltInt d a b pivot).1) ∧ St w w' blk off (partitionEqual ltInt d a b pivot).2 := by
  have hst0 : St w w blk off d := St.refl hH
  have H0 : Hid (St w w blk off d) := hst0
  have c0 := hst0.cell a (by omega)
  have f0 := hst0.froz a (by omega)
  have c1 := hst0.cell pivot (by omega)
  have f1 := hst0.froz pivot (by omega)
  have b0 : (a : Int) < n := by omega
  have b1 : (pivot : Int) < n := by omega
  clear hH hst0
  go_enter Yba.func28, Yba.ntmps28
  go_upto_region 1 with fail
  go_cut [] (fun wx => St w wx blk off (swp d a pivot))
  case first =>
    by_cases hm : pivot = a
    · subst hm
      go_region
      go_wp2
      go_meet
      case rel => exact H0.out.drew.swap pivot pivot (by omega) (by omega)
    · have hm1 : ¬ a = pivot := fun h => hm h.symm
      go_region
      go_wp2
      go_meet
      case rel => exact H0.out.drew.swap a pivot (by omega) (by omega)
  case rest =>
    have H1 : Hid (St w wc blk off (swp d a pivot)) := hcut
    clear hcut c0 f0 c1 f1 H0
    have hds : (swp d a pivot).size = n := by rw [swp_size]; exact hn
    obtain ⟨dd, hdd⟩ : ∃ dd, dd = swp d a pivot := ⟨_, rfl⟩
    have HDD : Hid (dd = swp d a pivot) := hdd
    rw [← hdd] at H1 hds
    clear hdd
    go_upto_block 0 with fail
    obtain ⟨bm, hbm⟩ : ∃ bm, bm = b - 1 := ⟨_, rfl⟩
    have HBM : Hid (bm = b - 1) := hbm
    have hbm1 : bm < n := by omega
    have hbm2 : a ≤ bm := by omega
    rw [show ((b : Int) - 1) = (bm : Int) from by omega]
    clear hbm
    go_wp2
    go_loopg [9, 10] (n + 2 - a) (fun gk x y wr => ∃ (i j : Nat) (d' : Array Int), x = .int .i64 i ∧ y = .int .i64 j ∧ a < i ∧ i ≤ n ∧ j < n ∧ i + gk = n + 3 ∧ d'.size = n ∧ partEqLoop ltInt a i j d' = partEqLoop ltInt a (a + 1) bm dd ∧ St w wr blk off d')
    case atStart => exact ⟨a + 1, bm, dd, by go_num, rfl, by omega, by omega, hbm1, by omega, hds, rfl, H1.out⟩
    case round =>
      clear H1
      obtain ⟨i0, j0, d', rfl, rfl, hai, hi0, hj0, hgk, hd', heq, hst⟩ := hrel
      have HE : Hid (partEqLoop ltInt a i0 j0 d' = partEqLoop ltInt a (a + 1) bm dd) := heq
      have HS : Hid (St w wr blk off d') := hst
      clear heq hst
      go_upto_block 2 with fail
      go_cut [9] (fun x wx => x = .int .i64 ((scanUp (fun x => !ltInt d'[a]! x) d' j0 i0 : Nat) : Int) ∧ St w wx blk off d')
      case first =>
        go_wp2
        go_loopw [9] (fun x wr => ∃ i : Nat, x = .int .i64 i ∧ i0 ≤ i ∧ i ≤ n + 1 ∧ scanUp (fun x => !ltInt d'[a]! x) d' j0 i = scanUp (fun x => !ltInt d'[a]! x) d' j0 i0 ∧ St w wr blk off d') (fun x _ => n + 2 - (intOf x).toNat)
        case atStart => exact ⟨i0, rfl, Nat.le_refl _, by omega, rfl, HS.out⟩
        case round =>
          clear HS
          obtain ⟨i, rfl, hi1, hi2, heq, hst⟩ := hrel
          have HEi : Hid (scanUp (fun x => !ltInt d'[a]! x) d' j0 i = scanUp (fun x => !ltInt d'[a]! x) d' j0 i0) := heq
          have HSi : Hid (St w wr blk off d') := hst
          clear heq
          by_cases hg : i ≤ j0
          · have ci := hst.cell i (by omega)
            have ca := hst.cell a (by omega)
            have hd : decide ((i : Int) ≤ (j0 : Int)) = true := by simp; omega
            have bi : (i : Int) < n := by omega
            have ba : (a : Int) < n := by omega
            clear hst
            by_cases hl : d'[a]! < d'[i]!
            · have HL : Hid (d'[a]! < d'[i]!) := hl
              have hb : decide (d'[a]! < d'[i]!) = true := by simpa using hl
              clear hl
              go_wp2
              go_quiet ((go_at_call 27; exact Calls.quiet_of_same (less27 _ _ _)))
              go_wp2
              go_meet
              case rel => exact ⟨by rw [← HEi.out, scanUp_halt (fun x => !ltInt d'[a]! x) d' j0 i (by simpa [ltInt] using fun _ => HL.out)], HSi.out.drewN _⟩
            · have HL : Hid (¬ d'[a]! < d'[i]!) := hl
              have hb : decide (d'[a]! < d'[i]!) = false := by simpa using hl
              clear hl
              go_wp2
              go_quiet ((go_at_call 27; exact Calls.quiet_of_same (less27 _ _ _)))
              go_wp2
              go_roundw
              case rel =>
                refine ⟨i + 1, by go_num, by omega, by omega, ?_, HSi.out.drewN _⟩
                rw [← HEi.out, scanUp_go (fun x => !ltInt d'[a]! x) d' j0 i hg (by simpa [ltInt] using HL.out)]
              case measure => simp [intOf]; omega
          · have hd : decide ((i : Int) ≤ (j0 : Int)) = false := by simp; omega
            clear hst
            go_wp2
            go_quiet (fail)
            go_wp2
            go_meet
            case rel => exact ⟨by rw [← HEi.out, scanUp_halt _ _ _ _ (fun h => hg h.1)], HSi.out.drewN _⟩
      case rest =>
        obtain ⟨rfl, hst⟩ := hcut
        have u1 := scanUp_ge (fun x => !ltInt d'[a]! x) d' j0 i0
        have u2 := scanUp_top (fun x => !ltInt d'[a]! x) d' n j0 i0 hi0 hj0
        obtain ⟨i2, hi2⟩ : ∃ i2, i2 = (scanUp (fun x => !ltInt d'[a]! x) d' j0 i0) := ⟨_, rfl⟩
        rw [← hi2] at u1 u2 ⊢
        have HI2 : Hid (i2 = (scanUp (fun x => !ltInt d'[a]! x) d' j0 i0)) := hi2
        have HS2 : Hid (St w wc blk off d') := hst
        clear hi2 hst HS
        go_upto_block 4 with fail
        go_cut [10] (fun x wx => x = .int .i64 ((scanDown (fun x => ltInt d'[a]! x) d' i2 j0 : Nat) : Int) ∧ St w wx blk off d')
        case first =>
          go_wp2
          go_loopw [10] (fun x wr => ∃ j : Nat, x = .int .i64 j ∧ j ≤ j0 ∧ scanDown (fun x => ltInt d'[a]! x) d' i2 j = scanDown (fun x => ltInt d'[a]! x) d' i2 j0 ∧ St w wr blk off d') (fun x _ => (intOf x).toNat)
          case atStart => exact ⟨j0, rfl, Nat.le_refl _, rfl, HS2.out⟩
          case round =>
            clear HS2
            obtain ⟨j, rfl, hj1, heq, hst⟩ := hrel
            have HEi : Hid (scanDown (fun x => ltInt d'[a]! x) d' i2 j = scanDown (fun x => ltInt d'[a]! x) d' i2 j0) := heq
            have HSi : Hid (St w wr blk off d') := hst
            clear heq
            by_cases hg : i2 ≤ j
            · have ci := hst.cell j (by omega)
              have ca := hst.cell a (by omega)
              have hd : decide ((i2 : Int) ≤ (j : Int)) = true := by simp; omega
              have bi : (j : Int) < n := by omega
              have ba : (a : Int) < n := by omega
              clear hst
              by_cases hl : d'[a]! < d'[j]!
              · have HL : Hid (d'[a]! < d'[j]!) := hl
                have hb : decide (d'[a]! < d'[j]!) = true := by simpa using hl
                clear hl
                go_wp2
                go_quiet ((go_at_call 27; exact Calls.quiet_of_same (less27 _ _ _)))
                go_wp2
                go_roundw
                case rel =>
                  refine ⟨j - 1, by go_num, by omega, ?_, HSi.out.drewN _⟩
                  rw [← HEi.out, scanDown_go (fun x => ltInt d'[a]! x) d' i2 j hg (by omega) (by simpa [ltInt] using HL.out)]
                case measure => simp [intOf]; omega
              · have HL : Hid (¬ d'[a]! < d'[j]!) := hl
                have hb : decide (d'[a]! < d'[j]!) = false := by simpa using hl
                clear hl
                go_wp2
                go_quiet ((go_at_call 27; exact Calls.quiet_of_same (less27 _ _ _)))
                go_wp2
                go_meet
                case rel => exact ⟨by rw [← HEi.out, scanDown_halt (fun x => ltInt d'[a]! x) d' i2 j (by simpa [ltInt] using fun _ => HL.out)], HSi.out.drewN _⟩
            · have hd : decide ((i2 : Int) ≤ (j : Int)) = false := by simp; omega
              clear hst
              go_wp2
              go_quiet (fail)
              go_wp2
              go_meet
              case rel => exact ⟨by rw [← HEi.out, scanDown_halt _ _ _ _ (fun h => hg h.1)], HSi.out.drewN _⟩
        case rest =>
          obtain ⟨rfl, hst⟩ := hcut
          have v1 := scanDown_le (fun x => ltInt d'[a]! x) d' i2 j0
          obtain ⟨j2, hj2⟩ : ∃ j2, j2 = scanDown (fun x => ltInt d'[a]! x) d' i2 j0 := ⟨_, rfl⟩
          rw [← hj2] at v1 ⊢
          have HJ2 : Hid (j2 = scanDown (fun x => ltInt d'[a]! x) d' i2 j0) := hj2
          have HS3 : Hid (St w wc blk off d') := hst
          have heqn := partEqLoop_eq ltInt a i0 j0 d'
          rw [← HI2.out, ← hj2] at heqn
          have HQ : Hid (partEqLoop ltInt a i0 j0 d' = if i2 > j2 then (i2, d') else partEqLoop ltInt a (i2 + 1) (j2 - 1) (swp d' i2 j2)) := heqn
          clear hj2 heqn HS2
          by_cases hij : j2 < i2
          · clear hst
            have HF : Hid (partEqLoop ltInt a (a + 1) bm dd = (i2, d')) := by
              show _ = _
              rw [← HE.out, HQ.out, if_pos hij]
            go_wp2
            go_ret
            unfold partitionEqual
            rw [← HBM.out, ← HDD.out, HF.out]
            exact ⟨rfl, HS3.out⟩
          · have c0 := hst.cell i2 (by omega)
            have f0 := hst.froz i2 (by omega)
            have c1 := hst.cell j2 (by omega)
            have f1 := hst.froz j2 (by omega)
            have e0 : (i2 : Int) < n := by omega
            have e1 : (j2 : Int) < n := by omega
            clear hst
            by_cases hm : i2 = j2
            · subst hm
              go_wp2
              go_region
              go_wp2
              go_roundg (gk - 1 - (i2 - i0))
              case measure => omega
              case rel =>
                refine ⟨i2 + 1, i2 - 1, swp d' i2 i2, by go_num, by go_num, by omega, by omega, by omega, by omega, by rw [swp_size]; exact hd', ?_, HS3.out.drew.swap i2 i2 (by omega) (by omega)⟩
                rw [← HE.out, HQ.out, if_neg hij]
            · have hm1 : ¬ j2 = i2 := fun h => hm h.symm
              go_wp2
              go_region
              go_wp2
              go_roundg (gk - 1 - (i2 - i0))
              case measure => omega
              case rel =>
                refine ⟨i2 + 1, j2 - 1, swp d' i2 j2, by go_num, by go_num, by omega, by omega, by omega, by omega, by rw [swp_size]; exact hd', ?_, HS3.out.drew.swap i2 j2 (by omega) (by omega)⟩
                rw [← HE.out, HQ.out, if_neg hij]
end Go.Proofs.Ybulkabsy.So
