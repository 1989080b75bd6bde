import Derived.Test.YbulkabsySrch
namespace Go.Proofs.Ybulkabsy.Srch
open Go.RowKit
set_option linter.unusedVariables false
set_option linter.unusedSimpArgs false

theorem nan40 (v : Int) (w : World) : Calls Yba.prog 40 #[.int .u16 v] w fun x w' => x = .returned (.bool false) ∧ w' = w := by
  have h : (v != v) = false := by simp
  go_enter Yba.func40, Yba.ntmps40
  go_wp2
  go_ret
  exact ⟨rfl, rfl⟩
theorem nan34 (v : Int) (w : World) : Calls Yba.prog 34 #[.int .u16 v] w fun x w' => x = .returned (.bool false) ∧ w' = w := by
  have h : (v != v) = false := by simp
  go_enter Yba.func34, Yba.ntmps34
  go_wp2
  go_ret
  exact ⟨rfl, rfl⟩
theorem less27 (a b : Int) (w : World) : Calls Yba.prog 27 #[.int .u16 a, .int .u16 b] w fun x w' => x = .returned (.bool (decide (a < b))) ∧ w' = w := by
  go_enter Yba.func27, Yba.ntmps27
  go_wp2
  go_ret
  exact ⟨rfl, rfl⟩

set_option maxRecDepth 100000 in
set_option maxHeartbeats 1000000 in
theorem search20 (b o n cap : Nat) (Z : Nat → Int) (v : Int) (w : World) (hn : n ≤ 100000) (hb : Hid (∀ i, i < n → w.cell? ⟨b, o + i, none⟩ = some (.int .u16 (Z i)))) :
    Calls Yba.prog 20 #[.slice (some ⟨b, o, none⟩) n cap, .int .u16 v] w fun e w' => w' = w ∧ ∃ (p : Nat) (f : Bool), e = .returned (.tuple #[.int .i64 p, .bool f]) ∧ p ≤ n ∧ (0 < p → Z (p - 1) < v) ∧ (p < n → v ≤ Z p) := by
  go_enter Yba.func20, Yba.ntmps20
  go_wp2
  go_loopw [7, 8, 9] (fun i j h wr => ∃ (p q : Nat), i = .int .i64 p ∧ j = .int .i64 q ∧ p ≤ q ∧ q ≤ n ∧ (0 < p → Z (p - 1) < v) ∧ (q < n → v ≤ Z q) ∧ wr = w) (fun i j _ _ => (intOf j).toNat - (intOf i).toNat)
  case atStart => exact ⟨0, n, rfl, rfl, by omega, by omega, by omega, by omega, rfl⟩
  case round =>
    obtain ⟨p, q, rfl, rfl, hpq, hq, hp, hv, rfl⟩ := hrel
    have Hp : Hid (0 < p → Z (p - 1) < v) := hp
    have Hv : Hid (q < n → v ≤ Z q) := hv
    clear hp hv
    by_cases hlt : p < q
    · have c0 := hb.out ((p + q) / 2) (by omega)
      by_cases hz : Z ((p + q) / 2) < v
      · go_wp2
        go_roundw
        case rel => exact ⟨(p + q) / 2 + 1, q, by go_num, rfl, by omega, by omega, fun _ => by simpa using hz, Hv.out, trivial⟩
        case measure => simp [intOf]; omega
      · go_wp2
        go_roundw
        case rel => exact ⟨p, (p + q) / 2, rfl, by go_num, by omega, by omega, Hp.out, fun _ => by omega, trivial⟩
        case measure => simp [intOf]; omega
    · obtain rfl : p = q := by omega
      by_cases hpn : p < n
      · have c0 := hb.out p hpn
        by_cases he : Z p = v
        · go_wp2
          exact bodyPost_ret (v := .tuple #[.int .i64 p, .bool true]) (by simp [results, Yba.results20, go_sem]) rfl ⟨rfl, p, true, rfl, by omega, Hp.out, Hv.out⟩
        · go_wp2
          exact bodyPost_ret (v := .tuple #[.int .i64 p, .bool false]) (by simp [results, Yba.results20, go_sem, he]) rfl ⟨rfl, p, false, rfl, by omega, Hp.out, Hv.out⟩
      · go_wp2
        exact bodyPost_ret (v := .tuple #[.int .i64 p, .bool false]) (by simp [results, Yba.results20, go_sem]) rfl ⟨rfl, p, false, rfl, by omega, Hp.out, Hv.out⟩

set_option maxRecDepth 100000 in
set_option maxHeartbeats 1000000 in
theorem gallop15 (b o n cap i : Nat) (Z : Nat → Int) (v : Int) (w : World) (hin : i ≤ n) (hn : n ≤ 100000) (hcap : n ≤ cap) (hcap2 : cap ≤ 100000) (hmono : Hid (∀ x y, x ≤ y → y < n → Z x ≤ Z y)) (hb : Hid (∀ i, i < n → w.cell? ⟨b, o + i, none⟩ = some (.int .u16 (Z i)))) :
    Calls Yba.prog 15 #[.slice (some ⟨b, o, none⟩) n cap, .int .i64 i, .int .u16 v] w fun e w' => w' = w ∧ ∃ (p : Nat), e = .returned (.int .i64 p) ∧ IsFirst Z n i v p := by
  go_enter Yba.func15, Yba.ntmps15
  go_wp2
  go_loopw [7, 8, 9] (fun l h s wr => ∃ (lo hi st : Nat), l = .int .i64 lo ∧ h = .int .i64 hi ∧ s = .int .i64 st ∧ i ≤ lo ∧ lo ≤ hi ∧ lo ≤ n ∧ 1 ≤ st ∧ st ≤ hi + 1 ∧ hi ≤ 2 * n + 1 ∧ (∀ x, i ≤ x → x < lo → Z x < v) ∧ wr = w) (fun _ h _ _ => n - (intOf h).toNat)
  case atStart => exact ⟨i, i, 1, rfl, rfl, rfl, by omega, by omega, by omega, by omega, by omega, by omega, by omega, rfl⟩
  case round =>
    obtain ⟨lo, hi, st, rfl, rfl, rfl, h1, h2, h3, h4, h5, h6, h7, rfl⟩ := hrel
    have H7 : Hid (∀ x, i ≤ x → x < lo → Z x < v) := h7
    clear h7
    by_cases hlt : hi < n
    · have c0 := hb.out hi hlt
      by_cases hz : Z hi < v
      · go_wp2
        go_roundw
        case rel =>
          refine ⟨hi + 1, hi + st, 2 * st, by go_num, by go_num, by go_num, by omega, by omega, by omega, by omega, by omega, by omega, ?_, trivial⟩
          intro x hx hx'
          have := hmono.out x hi (by omega) hlt
          omega
        case measure => simp [intOf]; omega
      · have m1 : ¬ n < hi := by omega
        by_cases hlh : lo = hi
        · subst hlh
          have e1 : ((lo : Int) == (lo : Int)) = true := by simp
          go_wp2_with fail
          go_ret
          exact ⟨rfl, lo, rfl, h1, h3, H7.out, fun _ => by omega⟩
        · have hcl : ¬ cap = lo := by omega
          have e1 : ((lo : Int) == (hi : Int)) = false := by simp; omega
          have k1 : (lo : Int) ≤ hi := by omega
          have k2 : (hi : Int) ≤ cap := by omega
          have Hs : Hid (∀ x, x < hi - lo → wr.cell? ⟨b, o + lo + x, none⟩ = some (.int .u16 (Z (lo + x)))) := fun x hx => by have := hb.out (lo + x) (by omega); rwa [← Nat.add_assoc] at this
          go_wp2_with (go_at_call 20; go_must (refine (search20 b (o + lo) (hi - lo) (cap - lo) (fun x => Z (lo + x)) v _ (by omega) Hs).mono ?_); rintro e w' ⟨rfl, p, f, rfl, hp, hp1, hp2⟩)
          go_ret
          refine ⟨rfl, lo + p, by go_num, by omega, by omega, ?_, ?_⟩
          · intro x hx hx'
            rcases Nat.lt_or_ge x lo with h | h
            · exact H7.out x hx h
            · have := hmono.out x (lo + (p - 1)) (by omega) (by omega)
              have := hp1 (by omega)
              omega
          · intro hpn
            rcases Nat.lt_or_ge p (hi - lo) with h | h
            · exact hp2 h
            · obtain rfl : p = hi - lo := by omega
              rw [show lo + (hi - lo) = hi from by omega]
              omega
    · by_cases hln : lo = n
      · subst hln
        have e1 : ((lo : Int) == (lo : Int)) = true := by simp
        by_cases m1 : lo < hi
        · go_wp2_with fail
          go_ret
          exact ⟨rfl, lo, rfl, h1, h3, H7.out, fun _ => by omega⟩
        · obtain rfl : hi = lo := by omega
          go_wp2_with fail
          go_ret
          exact ⟨rfl, hi, rfl, h1, h3, H7.out, fun _ => by omega⟩
      · have hcl : ¬ cap = lo := by omega
        have e1 : ((lo : Int) == (n : Int)) = false := by simp; omega
        have k1 : (lo : Int) ≤ n := by omega
        have k2 : (n : Int) ≤ cap := by omega
        have Hs : Hid (∀ x, x < n - lo → wr.cell? ⟨b, o + lo + x, none⟩ = some (.int .u16 (Z (lo + x)))) := fun x hx => by have := hb.out (lo + x) (by omega); rwa [← Nat.add_assoc] at this
        have fin : ∀ p, p ≤ n - lo → (0 < p → Z (lo + (p - 1)) < v) → (p < n - lo → v ≤ Z (lo + p)) → IsFirst Z n i v (lo + p) := by
          intro p hp hp1 hp2
          refine ⟨by omega, by omega, ?_, fun h => hp2 (by omega)⟩
          intro x hx hx'
          rcases Nat.lt_or_ge x lo with h | h
          · exact H7.out x hx h
          · have := hmono.out x (lo + (p - 1)) (by omega) (by omega)
            have := hp1 (by omega)
            omega
        by_cases m1 : n < hi
        · go_wp2_with (go_at_call 20; go_must (refine (search20 b (o + lo) (n - lo) (cap - lo) (fun x => Z (lo + x)) v _ (by omega) Hs).mono ?_); rintro e w' ⟨rfl, p, f, rfl, hp, hp1, hp2⟩)
          go_ret
          exact ⟨rfl, lo + p, by go_num, fin p hp hp1 hp2⟩
        · obtain rfl : hi = n := by omega
          go_wp2_with (go_at_call 20; go_must (refine (search20 b (o + lo) (hi - lo) (cap - lo) (fun x => Z (lo + x)) v _ (by omega) Hs).mono ?_); rintro e w' ⟨rfl, p, f, rfl, hp, hp1, hp2⟩)
          go_ret
          exact ⟨rfl, lo + p, by go_num, fin p hp hp1 hp2⟩
