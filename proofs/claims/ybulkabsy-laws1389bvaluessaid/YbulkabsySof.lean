import Derived.Test.YbulkabsySoe
import Derived.Test.YbulkabsySoi
import Derived.Test.YbulkabsySoj
import Derived.Test.YbulkabsySor
import Derived.Test.YbulkabsySoq
namespace Go.Proofs.Ybulkabsy.So
open Go.RowKit Go.Sort Go.Proofs.Ybulkabsy.Srch
set_option linter.unusedVariables false
set_option linter.unusedSimpArgs false

/-- Whatever sorted permutation of the part comes back, the whole is one. -/
def Fn (a b : Nat) (d : Array Int) (a' b' : Nat) (d' : Array Int) : Prop := ∀ R, PermIn a' b' d' R → SortedIn ltInt a' b' R → PermIn a b d R ∧ SortedIn ltInt a b R
theorem Fn.refl (a b : Nat) (d : Array Int) : Fn a b d a b d := fun R h1 h2 => ⟨h1, h2⟩
theorem Fn.perm {a b : Nat} {d : Array Int} {a' b' : Nat} {d' d1 : Array Int} (h : Fn a b d a' b' d') (p : PermIn a' b' d' d1) : Fn a b d a' b' d1 := fun R h1 h2 => h R (permIn_trans _ _ _ _ _ p h1) h2
theorem Fn.comp {a b : Nat} {d : Array Int} {a' b' : Nat} {d' : Array Int} {a2 b2 : Nat} {d2 : Array Int} (h : Fn a b d a' b' d') (k : ∀ R, PermIn a2 b2 d2 R → SortedIn ltInt a2 b2 R → PermIn a' b' d' R ∧ SortedIn ltInt a' b' R) : Fn a b d a2 b2 d2 := fun R h1 h2 => h R (k R h1 h2).1 (k R h1 h2).2

/-- What the sort hands back. -/
def Done (w : World) (blk off : Nat) (d : Array Int) (a b : Nat) (e : Ending) (w' : World) : Prop :=
  e = .returned (.tuple #[]) ∧ ∃ d', PermIn a b d d' ∧ SortedIn ltInt a b d' ∧ St w w' blk off d'

theorem eighth (a b : Nat) (h : a ≤ b) : Int.tdiv ((b : Int) - a) 8 = (((b - a) / 8 : Nat) : Int) := by
  rw [show ((b : Int) - a) = ((b - a : Nat) : Int) from by omega]
  rfl
theorem rev_pivot (a b p : Nat) (h1 : a ≤ p) (h2 : p < b) : (b : Int) - 1 - ((p : Int) - a) = ((b - 1 - (p - a) : Nat) : Int) := by omega

set_option maxRecDepth 100000 in
set_option maxHeartbeats 8000000 in
theorem pdq17 : ∀ (N blk off n cap a b lim : Nat) (d : Array Int) (w : World), b - a < N → d.size = n → n ≤ 100000 → a ≤ b → b ≤ n → lim ≤ 100 → Hid (Go.Sort.Below ltInt a b d) → Hid (Holds (Value.int .u16) w blk off d) →
    Calls Yba.prog 17 #[.slice (some ⟨blk, off, none⟩) n cap, .int .i64 a, .int .i64 b, .int .i64 lim] w fun e w' => Done w blk off d a b e w' := by
  intro N
  induction N with
  | zero =>
    intro blk off n cap a b lim d w hN
    omega
  | succ N ih =>
    intro blk off n cap a b lim d w hN hn hn2 hab hbn hlim hB hH
    have IH : Hid (∀ (blk off n cap a b lim : Nat) (d : Array Int) (w : World), b - a < N → d.size = n → n ≤ 100000 → a ≤ b → b ≤ n → lim ≤ 100 → Hid (Go.Sort.Below ltInt a b d) → Hid (Holds (Value.int .u16) w blk off d) →
        Calls Yba.prog 17 #[.slice (some ⟨blk, off, none⟩) n cap, .int .i64 a, .int .i64 b, .int .i64 lim] w fun e w' => Done w blk off d a b e w') := ih
    clear ih
    go_enter Yba.func17, Yba.ntmps17
    go_wp2
    go_loopg [1, 2, 3, 8, 9, 10, 11, 12, 13, 14, 15, 16, 17, 18] (b - a) (fun gk x1 x2 x3 x8 x9 _ _ _ _ _ _ _ _ _ wr => ∃ (a' b' lim' : Nat) (wb wp : Bool) (d' : Array Int), x1 = .int .i64 a' ∧ x2 = .int .i64 b' ∧ x3 = .int .i64 lim' ∧ x8 = .bool wb ∧ x9 = .bool wp ∧ a' ≤ b' ∧ b' ≤ n ∧ b' - a' < N + 1 ∧ lim' ≤ 100 ∧ gk = b' - a' ∧ d'.size = n ∧ Go.Sort.Below ltInt a' b' d' ∧ Fn a b d a' b' d' ∧ St w wr blk off d')
    case atStart => exact ⟨a, b, lim, true, true, d, rfl, rfl, rfl, rfl, rfl, hab, hbn, hN, hlim, rfl, hn, hB.out, Fn.refl _ _ _, St.refl hH.out⟩
    case round =>
      clear hB hH
      obtain ⟨a', b', lim', wb, wp, d', rfl, rfl, rfl, rfl, rfl, hab', hbn', hN', hlim', rfl, hd', hBel, hFn, hst⟩ := hrel
      have HB : Hid (Go.Sort.Below ltInt a' b' d') := hBel
      have HF : Hid (Fn a b d a' b' d') := hFn
      have HS : Hid (St w wr blk off d') := hst
      clear hBel hFn hst
      by_cases h12 : b' - a' ≤ 12
      · go_wp2_with (go_at_call 21; go_must (refine (ins21 blk off n cap a' b' d' _ hd' hn2 hab' hbn' HS.out.2).mono ?_); rintro e w1 ⟨rfl, hst1⟩)
        have hI := insertionSort_holds (lt := ltInt) swo_ltInt d' a' b' hab' (by omega)
        have hR := HF.out _ hI.1 hI.2
        refine bodyPost_ret (v := .tuple #[]) (by simp [results, Yba.results17, go_sem]) rfl ⟨rfl, _, hR.1, hR.2, HS.out.trans hst1⟩
      · by_cases hl0 : lim' = 0
        · have e0 : ((lim' : Int) == 0) = true := by simp [hl0]
          go_wp2_with (go_at_call 22; go_must (refine (heap22 blk off n cap a' b' d' _ hd' hn2 (by omega) hbn' HS.out.2).mono ?_); rintro e w1 ⟨rfl, hst1⟩)
          have hI := heapSort_holds (lt := ltInt) swo_ltInt d' a' b' hab' (by omega)
          have hR := HF.out _ hI.1 hI.2
          refine bodyPost_ret (v := .tuple #[]) (by simp [results, Yba.results17, go_sem]) rfl ⟨rfl, _, hR.1, hR.2, HS.out.trans hst1⟩
        · have e0 : ((lim' : Int) == 0) = false := by simp; omega
          go_upto_if 35 with fail
          go_cut [3] (fun y wx => ∃ (l2 : Nat) (d1 : Array Int), y = .int .i64 l2 ∧ l2 ≤ 100 ∧ PermIn a' b' d' d1 ∧ St w wx blk off d1)
          case first =>
            cases wb with
            | true =>
              go_wp2
              go_meet
              case rel => exact ⟨lim', d', rfl, hlim', permIn_refl _ _ _, HS.out⟩
            | false =>
              go_wp2_with (go_at_call 23; go_must (refine (brk23 blk off n cap a' b' d' _ hd' hn2 (by omega) hbn' HS.out.2).mono ?_); rintro e w1 ⟨rfl, d1, hp1, hst1⟩)
              go_meet
              case rel => exact ⟨lim' - 1, d1, by go_num, by omega, hp1, HS.out.trans hst1⟩
          case rest =>
            obtain ⟨l2, d1, rfl, hl2, hp1, hst1⟩ := hcut
            have HP1 : Hid (PermIn a' b' d' d1) := hp1
            have HS1 : Hid (St w wc blk off d1) := hst1
            have hd1 : d1.size = n := by rw [hp1.1]; exact hd'
            clear hp1 hst1 HS
            go_upto_region 11 with (go_at_call 24; go_must (refine (piv24 blk off n cap a' b' d1 _ hd1 hn2 (by omega) hbn' HS1.out.2).mono ?_); rintro e w1 ⟨p, hh, rfl, hpa, hpb, hhh, hst2⟩)
            have HS2 : Hid (St w w1 blk off d1) := HS1.out.trans hst2
            clear hst2 HS1
            go_upto_if 50 with fail
            go_cut [11, 12] (fun y z wx => ∃ (p2 h2 : Nat) (d2 : Array Int), y = .int .i64 p2 ∧ z = .int .i64 h2 ∧ a' ≤ p2 ∧ p2 < b' ∧ PermIn a' b' d1 d2 ∧ St w wx blk off d2)
            case first =>
              by_cases hh2 : hh = 2
              · subst hh2
                have e1 : (((2 : Nat) : Int) == 2) = true := rfl
                have hrp := rev_pivot a' b' p hpa hpb
                go_wp2_with (go_at_call 25; go_must (refine (rev25 blk off n cap a' b' d1 _ hd1 hn2 hab' hbn' HS2.out.2).mono ?_); rintro e w2 ⟨rfl, hst3⟩)
                go_meet
                case rel => exact ⟨b' - 1 - (p - a'), 1, _, by go_num, rfl, by omega, by omega, reverseRange_holds d1 a' b' hab' (by omega), HS2.out.trans hst3⟩
              · have e1 : ((hh : Int) == 2) = false := by simp; omega
                go_wp2
                go_meet
                case rel => exact ⟨p, hh, d1, rfl, rfl, hpa, hpb, permIn_refl _ _ _, HS2.out⟩
            case rest =>
              obtain ⟨p2, h2, d2, rfl, rfl, hpa2, hpb2, hp2, hst3⟩ := hcut
              have HP2 : Hid (PermIn a' b' d' d2) := permIn_trans _ _ _ _ _ HP1.out hp2
              have HS3 : Hid (St w wc blk off d2) := hst3
              have hd2 : d2.size = n := by rw [hp2.1]; exact hd1
              clear hp2 hst3 HS2 HP1 hpa hpb hhh hd1
              have HB2 : Hid (Go.Sort.Below ltInt a' b' d2) := HB.out.perm (by omega) HP2.out
              have HF2 : Hid (Fn a b d a' b' d2) := HF.out.perm HP2.out
              clear HB HF HP2
              go_upto_region 15 with fail
              go_cut [68] (fun y wx => ∃ c : Bool, y = .bool c ∧ wx = wc)
              case first =>
                cases wb <;> cases wp <;> go_wp2 <;> (go_meet; exact ⟨_, rfl, rfl⟩)
              case rest =>
                obtain ⟨c, rfl, rfl⟩ := hcut
                go_upto_if 68 with fail
                go_cut [] (fun wx => ∃ d3 : Array Int, PermIn a' b' d2 d3 ∧ St w wx blk off d3)
                case first =>
                  cases c with
                  | false =>
                    go_wp2
                    go_meet
                    case rel => exact ⟨d2, permIn_refl _ _ _, HS3.out⟩
                  | true =>
                    have hpi := partialInsertionSort_holds (lt := ltInt) swo_ltInt d2 a' b' (by omega) (by omega) HB2.out
                    obtain ⟨PI, hPI⟩ : ∃ PI, PI = partialInsertionSort ltInt d2 a' b' := ⟨_, rfl⟩
                    rw [← hPI] at hpi
                    have HPI : Hid (PI = partialInsertionSort ltInt d2 a' b') := hPI
                    have HQI : Hid (PermIn a' b' d2 PI.1 ∧ (PI.2 = true → SortedIn ltInt a' b' PI.1)) := hpi
                    clear hPI hpi
                    obtain ⟨r1, fl⟩ := PI
                    cases fl with
                    | true =>
                      have HSO : Hid (PermIn a' b' d2 r1 ∧ SortedIn ltInt a' b' r1) := ⟨HQI.out.1, HQI.out.2 rfl⟩
                      clear HQI
                      go_wp2_with (go_at_call 26; go_must (refine (pins26 blk off n cap a' b' d2 _ hd2 hn2 (by omega) hbn' HS3.out.2).mono ?_); rintro e w2 ⟨rfl, hst4⟩; rw [← HPI.out] at hst4 ⊢)
                      have hR := HF2.out _ HSO.out.1 HSO.out.2
                      refine bodyPost_ret (v := .tuple #[]) (by simp [results, Yba.results17, go_sem]) rfl ⟨rfl, _, hR.1, hR.2, HS3.out.trans hst4⟩
                    | false =>
                      go_wp2_with (go_at_call 26; go_must (refine (pins26 blk off n cap a' b' d2 _ hd2 hn2 (by omega) hbn' HS3.out.2).mono ?_); rintro e w2 ⟨rfl, hst4⟩; rw [← HPI.out] at hst4 ⊢)
                      go_meet
                      case rel => exact ⟨r1, HQI.out.1, HS3.out.trans hst4⟩
                case rest =>
                  obtain ⟨d3, hp3, hst4⟩ := hcut
                  have HS4 : Hid (St w wc blk off d3) := hst4
                  have hd3 : d3.size = n := by rw [hp3.1]; exact hd2
                  have HB3 : Hid (Go.Sort.Below ltInt a' b' d3) := HB2.out.perm (by omega) hp3
                  have HF3 : Hid (Fn a b d a' b' d3) := HF2.out.perm hp3
                  clear hp3 HB2 HF2 HS3 hd2
                  go_upto_region 17 with fail
                  go_cut [87] (fun y wx => (y = .bool true ∧ 0 < a' ∧ ltInt d3[a' - 1]! d3[p2]! = false ∨ y = .bool false) ∧ St w wx blk off d3)
                  case first =>
                    have cp := hst4.cell p2 (by omega)
                    have bp : (p2 : Int) < n := by omega
                    rcases Nat.eq_zero_or_pos a' with ha0 | ha0
                    · subst ha0
                      have hdd : decide ((0 : Int) < ((0 : Nat) : Int)) = false := rfl
                      clear hst4
                      go_quiet (fail)
                      go_wp2
                      go_meet
                      case rel => exact ⟨.inr rfl, HS4.out.drewN _⟩
                    · obtain ⟨k, hk⟩ : ∃ k, a' = k + 1 := ⟨a' - 1, by omega⟩
                      have ck := hst4.cell k (by omega)
                      have hdd : decide ((0 : Int) < (a' : Int)) = true := by simp; omega
                      have bk : (k : Int) < n := by omega
                      have ek : (a' : Int) - 1 = (k : Int) := by omega
                      clear hst4
                      by_cases hlt : d3[k]! < d3[p2]!
                      · have hb : decide (d3[k]! < d3[p2]!) = true := by simpa using hlt
                        clear hk
                        go_quiet ((go_at_call 27; exact Calls.quiet_of_same (less27 _ _ _)))
                        go_wp2
                        go_meet
                        case rel => exact ⟨.inr rfl, HS4.out.drewN _⟩
                      · have hb : decide (d3[k]! < d3[p2]!) = false := by simpa using hlt
                        have HL : Hid (0 < a' ∧ ltInt d3[a' - 1]! d3[p2]! = false) := by
                          refine ⟨ha0, ?_⟩
                          rw [show a' - 1 = k from by omega]
                          simpa [ltInt] using hlt
                        clear hk
                        go_quiet ((go_at_call 27; exact Calls.quiet_of_same (less27 _ _ _)))
                        go_wp2
                        go_meet
                        case rel => exact ⟨.inl ⟨rfl, HL.out.1, HL.out.2⟩, HS4.out.drewN _⟩
                  case rest =>
                    clear hst4 HS4
                    obtain ⟨hcase, hst5⟩ := hcut
                    have HS5 : Hid (St w wc blk off d3) := hst5
                    clear hst5
                    rcases hcase with ⟨rfl, ha0, hnl⟩ | rfl
                    · obtain ⟨PE, hPE⟩ : ∃ PE, PE = partitionEqual ltInt d3 a' b' p2 := ⟨_, rfl⟩
                      obtain ⟨mid, d4⟩ := PE
                      obtain ⟨m1, m2, hs4, hB4, hF4⟩ := round_eq swo_ltInt (partitionEqual_holds ltInt) ha0 hpa2 hpb2 (by omega) HB3.out hnl hPE.symm
                      have HPE : Hid ((mid, d4) = partitionEqual ltInt d3 a' b' p2) := hPE
                      have HG : Hid (Go.Sort.Below ltInt mid b' d4 ∧ Fn a b d mid b' d4) := ⟨hB4, HF3.out.comp hF4⟩
                      clear hPE hB4 hF4 hnl HB3 HF3
                      go_wp2_with (go_at_call 28; go_must (refine (parteq28 blk off n cap a' b' p2 d3 _ hd3 hn2 hpa2 hpb2 hbn' HS5.out.2).mono ?_); rintro e w2 ⟨rfl, hst6⟩; rw [← HPE.out] at hst6 ⊢)
                      go_roundg (b' - mid)
                      case measure => omega
                      case rel => exact ⟨mid, b', l2, wb, wp, d4, rfl, rfl, rfl, rfl, rfl, m2, hbn', by omega, hl2, rfl, by rw [hs4]; exact hd3, HG.out.1, HG.out.2, HS5.out.trans hst6⟩
                    · obtain ⟨PT, hPT⟩ : ∃ PT, PT = partition ltInt d3 a' b' p2 := ⟨_, rfl⟩
                      obtain ⟨mid, ap, d4⟩ := PT
                      obtain ⟨m1, m2, hs4, hBl, hBr, hL, hRt⟩ := round_part swo_ltInt (partition_holds ltInt) hpa2 hpb2 (by omega) HB3.out hPT.symm
                      have HPT : Hid ((mid, ap, d4) = partition ltInt d3 a' b' p2) := hPT
                      have HBl : Hid (Go.Sort.Below ltInt a' mid d4) := hBl
                      have HBr : Hid (Go.Sort.Below ltInt (mid + 1) b' d4) := hBr
                      have HL : Hid (∀ L, PermIn a' mid d4 L → SortedIn ltInt a' mid L → Go.Sort.Below ltInt (mid + 1) b' L ∧ ∀ R, PermIn (mid + 1) b' L R → SortedIn ltInt (mid + 1) b' R → PermIn a' b' d3 R ∧ SortedIn ltInt a' b' R) := hL
                      have HR : Hid (∀ L, PermIn (mid + 1) b' d4 L → SortedIn ltInt (mid + 1) b' L → Go.Sort.Below ltInt a' mid L ∧ ∀ R, PermIn a' mid L R → SortedIn ltInt a' mid R → PermIn a' b' d3 R ∧ SortedIn ltInt a' b' R) := hRt
                      have hd4 : d4.size = n := by rw [hs4]; exact hd3
                      have hq8 := eighth a' b' hab'
                      obtain ⟨q8, hq8e⟩ : ∃ q8, q8 = (b' - a') / 8 := ⟨_, rfl⟩
                      rw [← hq8e] at hq8
                      clear hPT hBl hBr hL hRt HB3 hs4 hq8e
                      go_upto_region 24 with (go_at_call 29; go_must (refine (part29 blk off n cap a' b' p2 d3 _ hd3 hn2 hpa2 hpb2 hbn' HS5.out.2).mono ?_); rintro e w2 ⟨f, rfl, hst6⟩; rw [← HPT.out] at hst6 ⊢)
                      have HS6 : Hid (St w w2 blk off d4) := HS5.out.trans hst6
                      clear hst6 HS5 HPT
                      by_cases hlr : (mid : Int) - a' < (b' : Int) - mid
                      · go_wp2_with (go_at_call 17; go_must (refine (IH.out blk off n cap a' mid l2 d4 _ (by omega) hd4 hn2 m1 (by omega) hl2 HBl HS6.out.2).mono ?_); rintro e w3 ⟨rfl, L, hpL, hsL, hstL⟩)
                        go_roundg (b' - (mid + 1))
                        case measure => omega
                        case rel => exact ⟨mid + 1, b', l2, _, f, L, by go_num, rfl, rfl, rfl, rfl, by omega, hbn', by omega, hl2, rfl, by rw [hpL.1]; exact hd4, (HL.out L hpL hsL).1, HF3.out.comp (HL.out L hpL hsL).2, HS6.out.trans hstL⟩
                      · go_wp2_with (go_at_call 17; go_must (refine (IH.out blk off n cap (mid + 1) b' l2 d4 _ (by omega) hd4 hn2 (by omega) hbn' hl2 HBr HS6.out.2).mono ?_); rintro e w3 ⟨rfl, L, hpL, hsL, hstL⟩)
                        go_roundg (mid - a')
                        case measure => omega
                        case rel => exact ⟨a', mid, l2, _, f, L, rfl, rfl, rfl, rfl, rfl, m1, by omega, by omega, hl2, rfl, by rw [hpL.1]; exact hd4, (HR.out L hpL hsL).1, HF3.out.comp (HR.out L hpL hsL).2, HS6.out.trans hstL⟩

set_option maxRecDepth 100000 in
theorem sort12 (blk off n cap : Nat) (d : Array Int) (w : World) (hn : d.size = n) (hn2 : n ≤ 100000) (hH : Hid (Holds (Value.int .u16) w blk off d)) :
    Calls Yba.prog 12 #[.slice (some ⟨blk, off, none⟩) n cap] w fun e w' => Done w blk off d 0 n e w' := by
  have hB : Hid (Go.Sort.Below ltInt 0 n d) := Or.inl rfl
  obtain ⟨k, hk⟩ : ∃ k, k = Lib.bitLen n := ⟨_, rfl⟩
  have hk100 : k ≤ 100 := by
    rcases Nat.eq_zero_or_pos n with h | h
    · subst h
      rw [hk]
      decide
    · have hp := pow_bitLen 17 n h (by omega) (by omega)
      rw [← hk] at hp
      rcases Nat.lt_or_ge 20 k with h1 | h1
      · have : 2 ^ 21 ≤ 2 ^ k := Nat.pow_le_pow_right (by decide) h1
        omega
      · omega
  have HK : Hid (k = Lib.bitLen n) := hk
  clear hk
  go_enter Yba.func12, Yba.ntmps12
  go_wp2_with (first
    | (go_at_call 18; go_must (refine (len18 _ _ (by omega) (by omega)).mono ?_); rintro e w' ⟨rfl, rfl⟩; rw [show ((n : Int)).toNat = n from by simp, ← HK.out])
    | (go_at_call 17; go_must (refine (pdq17 (n + 1) blk off n cap 0 n k d _ (by omega) hn hn2 (by omega) (by omega) hk100 hB hH).mono ?_); rintro e w' ⟨rfl, hd⟩))
  go_end0
  exact ⟨rfl, hd⟩
#print axioms sort12
end Go.Proofs.Ybulkabsy.So
