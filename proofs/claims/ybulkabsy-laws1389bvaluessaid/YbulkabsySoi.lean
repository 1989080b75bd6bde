import Derived.Test.YbulkabsySo
namespace Go.Proofs.Ybulkabsy.So
open Go.RowKit Go.Sort Go.Proofs.Ybulkabsy.Srch
set_option linter.unusedVariables false
set_option linter.unusedSimpArgs false

theorem insOuter_step (a b i : Nat) (d : Array Int) (h : i < b) : insOuter ltInt a b i d = insOuter ltInt a b (i + 1) (insInner ltInt a i d) := by
  conv => lhs; unfold insOuter
  rw [if_pos h]
theorem insOuter_stop (a b i : Nat) (d : Array Int) (h : ¬ i < b) : insOuter ltInt a b i d = d := by
  unfold insOuter
  rw [if_neg h]
theorem insInner_step (a j : Nat) (d : Array Int) (h : a < j) (hl : d[j]! < d[j - 1]!) : insInner ltInt a j d = insInner ltInt a (j - 1) (swp d j (j - 1)) := by
  obtain ⟨k, rfl⟩ : ∃ k, j = k + 1 := ⟨j - 1, by omega⟩
  simp only [Nat.add_sub_cancel] at hl ⊢
  conv => lhs; unfold insInner
  rw [if_pos (by simp [ltInt, hl]; omega)]
theorem insInner_stop (a j : Nat) (d : Array Int) (h : ¬ (a < j ∧ d[j]! < d[j - 1]!)) : insInner ltInt a j d = d := by
  cases j with
  | zero => rfl
  | succ k =>
    simp only [Nat.add_sub_cancel] at h
    unfold insInner
    rw [if_neg]
    simp only [ltInt, Bool.and_eq_true, decide_eq_true_eq]
    exact h

set_option maxRecDepth 100000 in
set_option maxHeartbeats 1000000 in
theorem ins21 (blk off n cap a b : Nat) (d : Array Int) (w : World) (hn : d.size = n) (hn2 : n ≤ 100000) (hab : a ≤ b) (hbn : b ≤ n) (hH : Holds (Value.int .u16) w blk off d) :
    Calls Yba.prog 21 #[.slice (some ⟨blk, off, none⟩) n cap, .int .i64 a, .int .i64 b] w fun e w' => e = .returned (.tuple #[]) ∧ St w w' blk off (insertionSort ltInt d a b) := by
  have H0 : Hid (St w w blk off d) := St.refl hH
  clear hH
  go_enter Yba.func21, Yba.ntmps21
  go_wp2
  go_loopw [6, 7] (fun x y wr => ∃ (i : Nat) (d' : Array Int), x = .int .i64 i ∧ a + 1 ≤ i ∧ i ≤ n + 1 ∧ d'.size = n ∧ insOuter ltInt a b i d' = insertionSort ltInt d a b ∧ St w wr blk off d') (fun x y _ => (n + 1 - (intOf x).toNat))
  case atStart => exact ⟨a + 1, d, by go_num, by omega, by omega, hn, rfl, H0.out⟩
  case round =>
    clear H0
    obtain ⟨i, d', rfl, hai, hi, hd', heq, hst⟩ := hrel
    have HE : Hid (insOuter ltInt a b i d' = insertionSort ltInt d a b) := heq
    have HS : Hid (St w wr blk off d') := hst
    clear heq hst
    by_cases hlt : i < b
    · go_wp2
      go_loopw [7] (fun y wq => ∃ (j : Nat) (d'' : Array Int), y = .int .i64 j ∧ a ≤ j ∧ j ≤ i ∧ d''.size = n ∧ insInner ltInt a j d'' = insInner ltInt a i d' ∧ St w wq blk off d'') (fun y _ => (intOf y).toNat)
      case atStart => exact ⟨i, d', rfl, by omega, by omega, hd', rfl, HS.out⟩
      case round =>
        clear HS
        obtain ⟨j, e, rfl, haj, hji, he, hieq, hst⟩ := hrel
        have HI : Hid (insInner ltInt a j e = insInner ltInt a i d') := hieq
        have HS : Hid (St w wr blk off e) := hst
        by_cases hg : a < j
        · obtain ⟨k, rfl⟩ : ∃ k, j = k + 1 := ⟨j - 1, by omega⟩
          have cj := hst.cell (k + 1) (by omega)
          have ck := hst.cell k (by omega)
          have fj := hst.froz (k + 1) (by omega)
          have fk := hst.froz k (by omega)
          clear hst hieq
          have hd : decide ((a : Int) < (k : Int) + 1) = true := by simp; omega
          have b1 : (k : Int) + 1 < n := by omega
          have b2 : (k : Int) < n := by omega
          by_cases hl : e[k + 1]! < e[k]!
          · go_wp2
            go_quiet ((go_at_call 27; exact Calls.quiet_of_same (less27 _ _ _)))
            go_wp2
            go_region
            go_wp2
            go_roundw
            case rel =>
              refine ⟨k, swp e (k + 1) k, by go_num, by omega, by omega, by rw [swp_size]; exact he, ?_, ?_⟩
              · rw [← HI.out, insInner_step a (k + 1) e hg (by simpa using hl)]
                simp
              · exact (HS.out.drewN _).swap (k + 1) k (by omega) (by omega)
            case measure => simp [intOf]
          · go_wp2
            go_quiet ((go_at_call 27; exact Calls.quiet_of_same (less27 _ _ _)))
            go_wp2
            go_roundw
            case rel =>
              refine ⟨i + 1, e, by go_num, by omega, by omega, he, ?_, ?_⟩
              · rw [← HE.out, insOuter_step _ _ _ _ hlt, ← HI.out, insInner_stop a (k + 1) e (by simpa using fun _ => hl)]
              · exact HS.out.drewN _
            case measure => simp [intOf]; omega
        · have hd : decide ((a : Int) < (j : Int)) = false := by simp; omega
          clear hst hieq
          go_wp2
          go_quiet (fail)
          go_wp2
          go_roundw
          case rel =>
            refine ⟨i + 1, e, by go_num, by omega, by omega, he, ?_, ?_⟩
            · rw [← HE.out, insOuter_step _ _ _ _ hlt, ← HI.out, insInner_stop a j e (fun h => hg h.1)]
            · exact HS.out.drewN _
          case measure => simp [intOf]; omega
    · go_wp2
      go_end0
      refine ⟨rfl, ?_⟩
      rw [← HE.out, insOuter_stop _ _ _ _ hlt]
      exact HS.out
end Go.Proofs.Ybulkabsy.So
