import Derived.Test.YbulkabsySoh
namespace Go.Proofs.Ybulkabsy.So
open Go.RowKit Go.Sort Go.Proofs.Ybulkabsy.Srch
set_option linter.unusedVariables false
set_option linter.unusedSimpArgs false

theorem sift_size (hi first : Nat) : ∀ (m r : Nat) (d : Array Int), hi - r ≤ m → (siftDown ltInt hi first r d).size = d.size := by
  intro m
  induction m with
  | zero =>
    intro r d h
    rw [sift_stop _ _ _ _ (by omega)]
  | succ m ih =>
    intro r d h
    by_cases h1 : hi ≤ 2 * r + 1
    · rw [sift_stop _ _ _ _ h1]
    · rw [sift_step _ _ _ _ (by omega)]
      split
      · rw [ih _ _ (by unfold kid; split <;> omega), swp_size]
      · rfl
theorem half_eq (a b : Nat) (h : a < b) : Int.tdiv ((b : Int) - a - 1) 2 = (((b - a - 1) / 2 : Nat) : Int) := by
  rw [show ((b : Int) - a - 1) = ((b - a - 1 : Nat) : Int) from by omega]
  rfl

set_option maxRecDepth 100000 in
set_option maxHeartbeats 1000000 in
theorem heap22 (blk off n cap a b : Nat) (d : Array Int) (w : World) (hn : d.size = n) (hn2 : n ≤ 100000) (hab : a < b) (hbn : b ≤ n) (hH : Holds (Value.int .u16) w blk off d) :
    Calls Yba.prog 22 #[.slice (some ⟨blk, off, none⟩) n cap, .int .i64 a, .int .i64 b] w fun e w' => e = .returned (.tuple #[]) ∧ St w w' blk off (heapSort ltInt d a b) := by
  have H0 : Hid (St w w blk off d) := St.refl hH
  have hhalf := half_eq a b hab
  clear hH
  go_enter Yba.func22, Yba.ntmps22
  go_upto_block 0 with fail
  rw [show (((b - a - 1 : Nat) : Int) / 2) = (((b - a - 1) / 2 : Nat) : Int) from by omega]
  clear hhalf
  obtain ⟨hi, hhi⟩ : ∃ hi, hi = b - a := ⟨_, rfl⟩
  rw [show ((b : Int) - a) = (hi : Int) from by omega, ← hhi]
  have HHI : Hid (hi = b - a) := hhi
  have l1 : a + hi ≤ b := by omega
  have l2 : b ≤ a + hi := by omega
  clear hhi
  go_cut [9] (fun _ wx => ∃ d', d'.size = n ∧ d' = heapBuild ltInt hi a ((hi - 1) / 2 + 1) d ∧ St w wx blk off d')
  case first =>
    go_wp2
    go_loopw [9] (fun x wr => ∃ (k : Nat) (d' : Array Int), x = .int .i64 ((k : Int) - 1) ∧ k ≤ n ∧ d'.size = n ∧ heapBuild ltInt hi a k d' = heapBuild ltInt hi a ((hi - 1) / 2 + 1) d ∧ St w wr blk off d') (fun x _ => ((intOf x) + 1).toNat)
    case atStart => exact ⟨(hi - 1) / 2 + 1, d, by simp, by omega, hn, rfl, H0.out⟩
    case round =>
      clear H0
      obtain ⟨k, d', rfl, hk, hd', heq, hst⟩ := hrel
      have HE : Hid (heapBuild ltInt hi a k d' = heapBuild ltInt hi a ((hi - 1) / 2 + 1) d) := heq
      have HS : Hid (St w wr blk off d') := hst
      clear heq hst
      cases k with
      | zero =>
        go_wp2
        go_meet
        case rel => exact ⟨d', hd', HE.out, HS.out⟩
      | succ m =>
        have e1 : (((m + 1 : Nat) : Int) - 1) = (m : Int) := by omega
        rw [e1]
        go_wp2_with (go_at_call 35; go_must (refine (sift35 blk off n cap m hi a d' _ hd' hn2 (by omega) (by omega) HS.out.2).mono ?_); rintro e w' ⟨rfl, hst'⟩)
        go_roundw
        case rel => (repeat apply Exists.intro); exact ⟨⟨m, siftDown ltInt hi a m d', by go_num, by omega, by rw [sift_size _ _ _ _ _ (Nat.le_refl _)]; exact hd', HE.out, HS.out.trans hst'⟩, rfl⟩
        case measure => simp [intOf]
  case rest =>
    obtain ⟨d1, hd1, hd1e, hst1⟩ := hcut
    have H1 : Hid (d1 = heapBuild ltInt hi a ((hi - 1) / 2 + 1) d) := hd1e
    have H2 : Hid (St w wc blk off d1) := hst1
    clear hd1e hst1 H0
    go_wp2
    go_loopw [10] (fun x wr => ∃ (k : Nat) (d' : Array Int), x = .int .i64 ((k : Int) - 1) ∧ k ≤ hi ∧ d'.size = n ∧ heapPop ltInt a k d' = heapPop ltInt a hi d1 ∧ St w wr blk off d') (fun x _ => ((intOf x) + 1).toNat)
    case atStart => exact ⟨hi, d1, rfl, by omega, hd1, rfl, H2.out⟩
    case round =>
      clear H2
      obtain ⟨k, d', rfl, hk, hd', heq, hst⟩ := hrel
      have HE : Hid (heapPop ltInt a k d' = heapPop ltInt a hi d1) := heq
      have HS : Hid (St w wr blk off d') := hst
      clear heq
      cases k with
      | zero =>
        clear hst
        go_wp2
        go_end0
        refine ⟨rfl, ?_⟩
        show St w _ blk off (heapPop ltInt a (b - a) (heapBuild ltInt (b - a) a ((b - a - 1) / 2 + 1) d))
        rw [← HHI.out, ← H1.out, ← HE.out]
        exact HS.out
      | succ m =>
        have e1 : (((m + 1 : Nat) : Int) - 1) = (m : Int) := by omega
        rw [e1]
        have c0 := hst.cell a (by omega)
        have f0 := hst.froz a (by omega)
        have c1 := hst.cell (a + m) (by omega)
        have f1 := hst.froz (a + m) (by omega)
        have b0 : (a : Int) < n := by omega
        have b1 : (a : Int) + m < n := by omega
        clear hst
        by_cases hm : m = 0
        · subst hm
          go_wp2
          go_region
          go_wp2_with (go_at_call 35; go_must (refine (sift35 blk off n cap 0 0 a (swp d' a (a + 0)) _ (by rw [swp_size]; exact hd') hn2 (by omega) (by omega) (HS.out.drew.swap a (a + 0) (by omega) (by omega)).2).mono ?_); rintro e w' ⟨rfl, hst'⟩)
          go_roundw
          case rel => (repeat apply Exists.intro); exact ⟨⟨0, siftDown ltInt 0 a 0 (swp d' a (a + 0)), by go_num, by omega, by rw [sift_size _ _ _ _ _ (Nat.le_refl _), swp_size]; exact hd', HE.out, (HS.out.drew.swap a (a + 0) (by omega) (by omega)).trans hst'⟩, rfl⟩
          case measure => simp [intOf]
        · have hm1 : ¬ a + m = a := by omega
          have hm2 : ¬ a = a + m := by omega
          go_wp2
          go_region
          go_wp2_with (go_at_call 35; go_must (refine (sift35 blk off n cap 0 m a (swp d' a (a + m)) _ (by rw [swp_size]; exact hd') hn2 (by omega) (by omega) (HS.out.drew.swap a (a + m) (by omega) (by omega)).2).mono ?_); rintro e w' ⟨rfl, hst'⟩)
          go_roundw
          case rel => (repeat apply Exists.intro); exact ⟨⟨m, siftDown ltInt m a 0 (swp d' a (a + m)), by go_num, by omega, by rw [sift_size _ _ _ _ _ (Nat.le_refl _), swp_size]; exact hd', HE.out, (HS.out.drew.swap a (a + m) (by omega) (by omega)).trans hst'⟩, rfl⟩
          case measure => simp [intOf]
end Go.Proofs.Ybulkabsy.So
