import Derived.Test.YbulkabsySo
namespace Go.Proofs.Ybulkabsy.So
open Go.RowKit Go.Sort Go.Proofs.Ybulkabsy.Srch
set_option linter.unusedVariables false
set_option linter.unusedSimpArgs false

theorem sift_stop (hi first r : Nat) (d : Array Int) (h : hi ≤ 2 * r + 1) : siftDown ltInt hi first r d = d := by
  unfold siftDown
  rw [dif_pos h]
/-- The greater child. -/
def kid (hi first r : Nat) (d : Array Int) : Nat := if 2 * r + 2 < hi ∧ d[first + (2 * r + 1)]! < d[first + (2 * r + 1) + 1]! then 2 * r + 2 else 2 * r + 1
theorem sift_step (hi first r : Nat) (d : Array Int) (h : 2 * r + 1 < hi) : siftDown ltInt hi first r d =
    if d[first + r]! < d[first + kid hi first r d]! then siftDown ltInt hi first (kid hi first r d) (swp d (first + r) (first + kid hi first r d)) else d := by
  conv => lhs; unfold siftDown
  rw [dif_neg (by omega)]
  unfold kid
  by_cases h1 : 2 * r + 2 < hi ∧ d[first + (2 * r + 1)]! < d[first + (2 * r + 1) + 1]!
  · rw [if_pos h1, if_pos (by simpa [ltInt] using h1), dif_pos h1.1]
    by_cases h2 : d[first + r]! < d[first + (2 * r + 2)]!
    · rw [if_neg (by simp [ltInt, h2]), if_pos h2]
    · rw [if_pos (by simp [ltInt]; omega), if_neg h2]
  · rw [if_neg h1, if_neg (by simpa [ltInt] using h1)]
    by_cases h2 : d[first + r]! < d[first + (2 * r + 1)]!
    · rw [if_neg (by simp [ltInt, h2]), if_pos h2]
    · rw [if_pos (by simp [ltInt]; omega), if_neg h2]

set_option maxRecDepth 100000 in
set_option maxHeartbeats 1000000 in
theorem sift35 (blk off n cap lo hi first : Nat) (d : Array Int) (w : World) (hn : d.size = n) (hn2 : n ≤ 100000) (hlo : lo ≤ n) (hbn : first + hi ≤ n) (hH : Holds (Value.int .u16) w blk off d) :
    Calls Yba.prog 35 #[.slice (some ⟨blk, off, none⟩) n cap, .int .i64 lo, .int .i64 hi, .int .i64 first] w fun e w' => e = .returned (.tuple #[]) ∧ St w w' blk off (siftDown ltInt hi first lo d) := by
  have H0 : Hid (St w w blk off d) := St.refl hH
  clear hH
  go_enter Yba.func35, Yba.ntmps35
  go_wp2
  go_loopw [8, 9] (fun x _ wr => ∃ (r : Nat) (d' : Array Int), x = .int .i64 r ∧ r ≤ n ∧ d'.size = n ∧ siftDown ltInt hi first r d' = siftDown ltInt hi first lo d ∧ St w wr blk off d') (fun x _ _ => (n + 1 - (intOf x).toNat))
  case atStart => exact ⟨lo, d, rfl, hlo, hn, rfl, H0.out⟩
  case round =>
    clear H0
    obtain ⟨r, d', rfl, hr, hd', heq, hst⟩ := hrel
    have HE : Hid (siftDown ltInt hi first r d' = siftDown ltInt hi first lo d) := heq
    have HS : Hid (St w wr blk off d') := hst
    clear heq
    by_cases hlt : hi ≤ 2 * r + 1
    · clear hst
      go_wp2
      go_end0
      refine ⟨rfl, ?_⟩
      rw [← HE.out, sift_stop _ _ _ _ hlt]
      exact HS.out
    · have cr := hst.cell (first + r) (by omega)
      have fr := hst.froz (first + r) (by omega)
      have c1 := hst.cell (first + (2 * r + 1)) (by omega)
      have f1 := hst.froz (first + (2 * r + 1)) (by omega)
      have hstep := sift_step hi first r d' (by omega)
      have HK : Hid (siftDown ltInt hi first r d' = if d'[first + r]! < d'[first + kid hi first r d']! then siftDown ltInt hi first (kid hi first r d') (swp d' (first + r) (first + kid hi first r d')) else d') := hstep
      clear hstep
      have b0 : (first : Int) + r < n := by omega
      have b1 : (first : Int) + (2 * r + 1) < n := by omega
      by_cases h2 : 2 * r + 2 < hi
      · have c2 := hst.cell (first + (2 * r + 1) + 1) (by omega)
        have f2 := hst.froz (first + (2 * r + 1) + 1) (by omega)
        have b2 : (first : Int) + (2 * r + 1) + 1 < n := by omega
        have c3 := hst.cell (first + (2 * r + 1 + 1)) (by omega)
        have f3 := hst.froz (first + (2 * r + 1 + 1)) (by omega)
        have b3 : (first : Int) + (2 * r + 1 + 1) < n := by omega
        have hd : decide ((2 : Int) * r + 1 + 1 < hi) = true := by simp; omega
        clear hst
        by_cases hl : d'[first + (2 * r + 1)]! < d'[first + (2 * r + 1) + 1]!
        · have hk : kid hi first r d' = 2 * r + 2 := by unfold kid; rw [if_pos ⟨h2, hl⟩]
          rw [hk] at HK
          clear hk
          by_cases hz : d'[first + r]! < d'[first + (2 * r + 1 + 1)]!
          · go_wp2
            go_quiet ((go_at_call 27; exact Calls.quiet_of_same (less27 _ _ _)))
            go_wp2
            go_quiet ((go_at_call 27; refine (less27 _ _ _).mono ?_; rintro e w' ⟨rfl, rfl⟩; exact ⟨rfl, _, rfl⟩))
            go_wp2
            go_region
            go_wp2
            go_roundw
            case rel =>
              refine ⟨2 * r + 2, swp d' (first + r) (first + (2 * r + 1 + 1)), by go_num, by omega, by rw [swp_size]; exact hd', ?_, (HS.out.drewN _).swap (first + r) (first + (2 * r + 1 + 1)) (by omega) (by omega)⟩
              rw [← HE.out, HK.out, if_pos (by simpa [Nat.add_assoc] using hz)]
            case measure => simp [intOf]; omega
          · have HZ : Hid (¬ d'[first + r]! < d'[first + (2 * r + 1 + 1)]!) := hz
            have hzb : decide (d'[first + r]! < d'[first + (2 * r + 1 + 1)]!) = false := by simp; omega
            go_wp2
            go_quiet ((go_at_call 27; exact Calls.quiet_of_same (less27 _ _ _)))
            go_wp2
            go_quiet ((go_at_call 27; refine (less27 _ _ _).mono ?_; rintro e w' ⟨rfl, rfl⟩; exact ⟨rfl, _, rfl⟩))
            go_wp2
            refine bodyPost_ret (v := .tuple #[]) (by simp [results, Yba.results35, go_sem]) rfl ⟨rfl, ?_⟩
            rw [← HE.out, HK.out, if_neg (by simpa [Nat.add_assoc] using HZ.out)]
            exact (HS.out.drewN _).drewN _
        · have hk : kid hi first r d' = 2 * r + 1 := by unfold kid; rw [if_neg (fun h => hl h.2)]
          rw [hk] at HK
          clear hk
          by_cases hz : d'[first + r]! < d'[first + (2 * r + 1)]!
          · go_wp2
            go_quiet ((go_at_call 27; exact Calls.quiet_of_same (less27 _ _ _)))
            go_wp2
            go_quiet ((go_at_call 27; refine (less27 _ _ _).mono ?_; rintro e w' ⟨rfl, rfl⟩; exact ⟨rfl, _, rfl⟩))
            go_wp2
            go_region
            go_wp2
            go_roundw
            case rel =>
              refine ⟨2 * r + 1, swp d' (first + r) (first + (2 * r + 1)), by go_num, by omega, by rw [swp_size]; exact hd', ?_, (HS.out.drewN _).swap (first + r) (first + (2 * r + 1)) (by omega) (by omega)⟩
              rw [← HE.out, HK.out, if_pos (by simpa [Nat.add_assoc] using hz)]
            case measure => simp [intOf]; omega
          · have HZ : Hid (¬ d'[first + r]! < d'[first + (2 * r + 1)]!) := hz
            have hzb : decide (d'[first + r]! < d'[first + (2 * r + 1)]!) = false := by simp; omega
            go_wp2
            go_quiet ((go_at_call 27; exact Calls.quiet_of_same (less27 _ _ _)))
            go_wp2
            go_quiet ((go_at_call 27; refine (less27 _ _ _).mono ?_; rintro e w' ⟨rfl, rfl⟩; exact ⟨rfl, _, rfl⟩))
            go_wp2
            refine bodyPost_ret (v := .tuple #[]) (by simp [results, Yba.results35, go_sem]) rfl ⟨rfl, ?_⟩
            rw [← HE.out, HK.out, if_neg (by simpa [Nat.add_assoc] using HZ.out)]
            exact (HS.out.drewN _).drewN _
      · have hd : decide ((2 : Int) * r + 1 + 1 < hi) = false := by simp; omega
        clear hst
        have hk : kid hi first r d' = 2 * r + 1 := by unfold kid; rw [if_neg (fun h => h2 h.1)]
        rw [hk] at HK
        clear hk
        by_cases hz : d'[first + r]! < d'[first + (2 * r + 1)]!
        · go_wp2
          go_quiet (fail)
          go_wp2
          go_quiet ((go_at_call 27; refine (less27 _ _ _).mono ?_; rintro e w' ⟨rfl, rfl⟩; exact ⟨rfl, _, rfl⟩))
          go_wp2
          go_region
          go_wp2
          go_roundw
          case rel =>
            refine ⟨2 * r + 1, swp d' (first + r) (first + (2 * r + 1)), by go_num, by omega, by rw [swp_size]; exact hd', ?_, (HS.out.drewN _).swap (first + r) (first + (2 * r + 1)) (by omega) (by omega)⟩
            rw [← HE.out, HK.out, if_pos (by simpa [Nat.add_assoc] using hz)]
          case measure => simp [intOf]; omega
        · have HZ : Hid (¬ d'[first + r]! < d'[first + (2 * r + 1)]!) := hz
          have hzb : decide (d'[first + r]! < d'[first + (2 * r + 1)]!) = false := by simp; omega
          go_wp2
          go_quiet (fail)
          go_wp2
          go_quiet ((go_at_call 27; refine (less27 _ _ _).mono ?_; rintro e w' ⟨rfl, rfl⟩; exact ⟨rfl, _, rfl⟩))
          go_wp2
          refine bodyPost_ret (v := .tuple #[]) (by simp [results, Yba.results35, go_sem]) rfl ⟨rfl, ?_⟩
          rw [← HE.out, HK.out, if_neg (by simpa [Nat.add_assoc] using HZ.out)]
          exact (HS.out.drewN _).drewN _
end Go.Proofs.Ybulkabsy.So
