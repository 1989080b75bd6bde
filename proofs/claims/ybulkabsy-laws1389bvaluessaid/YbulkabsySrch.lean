import Derived.Test.YbulkabsyRows
import Derived.WalkKit
import Derived.WalkSpells
import Derived.WalkLawsBesides
import Derived.ProofKit
import Derived.Below
import Derived.RegionTactic
import Derived.Deep.QuietTactic
import Derived.BigQuiet
import Derived.Deep.DeepCutAuto
import Derived.Deep.CutBlock
import Derived.Deep.Draws
import Derived.OneCell
namespace Go.Proofs.Ybulkabsy.Srch
open Go.RowKit
set_option linter.unusedVariables false
set_option linter.unusedSimpArgs false

theorem nan41 (v : Int) (w : World) : Calls Yba.prog 41 #[.int .i64 v] w fun x w' => x = .returned (.bool false) ∧ w' = w := by
  have h : (v != v) = false := by simp
  go_enter Yba.func41, Yba.ntmps41
  go_wp2
  go_ret
  exact ⟨rfl, rfl⟩
theorem nan33 (v : Int) (w : World) : Calls Yba.prog 33 #[.int .i64 v] w fun x w' => x = .returned (.bool false) ∧ w' = w := by
  have h : (v != v) = false := by simp
  go_enter Yba.func33, Yba.ntmps33
  go_wp2
  go_ret
  exact ⟨rfl, rfl⟩
theorem less32 (a b : Int) (w : World) : Calls Yba.prog 32 #[.int .i64 a, .int .i64 b] w fun x w' => x = .returned (.bool (decide (a < b))) ∧ w' = w := by
  go_enter Yba.func32, Yba.ntmps32
  go_wp2
  go_ret
  exact ⟨rfl, rfl⟩

theorem half (i j : Nat) (h : i + j < 1000000) : IntKind.i64.wrap (IntKind.u64.wrap ((i : Int) + j) / 2) = (((i + j) / 2 : Nat) : Int) := by
  rw [IntKind.wrap_u64, IntKind.wrap_i64]; omega

set_option maxRecDepth 100000 in
set_option maxHeartbeats 1000000 in
theorem search19 (b o n cap : Nat) (Z : Nat → Int) (v : Int) (w : World) (hn : n ≤ 100000) (hb : Hid (∀ i, i < n → w.cell? ⟨b, o + i, none⟩ = some (.int .i64 (Z i)))) :
    Calls Yba.prog 19 #[.slice (some ⟨b, o, none⟩) n cap, .int .i64 v] w fun e w' => w' = w ∧ ∃ (p : Nat) (f : Bool), e = .returned (.tuple #[.int .i64 p, .bool f]) ∧ p ≤ n ∧ (0 < p → Z (p - 1) < v) ∧ (p < n → v ≤ Z p) := by
  go_enter Yba.func19, Yba.ntmps19
  go_wp2
  go_loopw [7, 8, 9] (fun i j h wr => ∃ (p q : Nat), i = .int .i64 p ∧ j = .int .i64 q ∧ p ≤ q ∧ q ≤ n ∧ (0 < p → Z (p - 1) < v) ∧ (q < n → v ≤ Z q) ∧ wr = w) (fun i j _ _ => (intOf j).toNat - (intOf i).toNat)
  case atStart => exact ⟨0, n, rfl, rfl, by omega, by omega, by omega, by omega, rfl⟩
  case round =>
    obtain ⟨p, q, rfl, rfl, hpq, hq, hp, hv, rfl⟩ := hrel
    have Hp : Hid (0 < p → Z (p - 1) < v) := hp
    have Hv : Hid (q < n → v ≤ Z q) := hv
    clear hp hv
    by_cases hlt : p < q
    · have c0 := hb.out ((p + q) / 2) (by omega)
      by_cases hz : Z ((p + q) / 2) < v
      · go_wp2
        go_roundw
        case rel => exact ⟨(p + q) / 2 + 1, q, by go_num, rfl, by omega, by omega, fun _ => by simpa using hz, Hv.out, trivial⟩
        case measure => simp [intOf]; omega
      · go_wp2
        go_roundw
        case rel => exact ⟨p, (p + q) / 2, rfl, by go_num, by omega, by omega, Hp.out, fun _ => by omega, trivial⟩
        case measure => simp [intOf]; omega
    · obtain rfl : p = q := by omega
      by_cases hpn : p < n
      · have c0 := hb.out p hpn
        by_cases he : Z p = v
        · go_wp2
          exact bodyPost_ret (v := .tuple #[.int .i64 p, .bool true]) (by simp [results, Yba.results19, go_sem]) rfl ⟨rfl, p, true, rfl, by omega, Hp.out, Hv.out⟩
        · go_wp2
          exact bodyPost_ret (v := .tuple #[.int .i64 p, .bool false]) (by simp [results, Yba.results19, go_sem, he]) rfl ⟨rfl, p, false, rfl, by omega, Hp.out, Hv.out⟩
      · go_wp2
        exact bodyPost_ret (v := .tuple #[.int .i64 p, .bool false]) (by simp [results, Yba.results19, go_sem]) rfl ⟨rfl, p, false, rfl, by omega, Hp.out, Hv.out⟩

/-- The first place at or behind i that holds at least v, else n. -/
def IsFirst (Z : Nat → Int) (n i : Nat) (v : Int) (p : Nat) : Prop := i ≤ p ∧ p ≤ n ∧ (∀ x, i ≤ x → x < p → Z x < v) ∧ (p < n → v ≤ Z p)
theorem IsFirst.eq {Z : Nat → Int} {n i : Nat} {v : Int} {p q : Nat} (h : IsFirst Z n i v p) (h' : IsFirst Z n i v q) : p = q := by
  obtain ⟨a, b, c, d⟩ := h
  obtain ⟨a', b', c', d'⟩ := h'
  rcases Nat.lt_trichotomy p q with h | h | h
  · have := c' p a h
    have := d (by omega)
    omega
  · exact h
  · have := c q a' h
    have := d' (by omega)
    omega

set_option maxRecDepth 100000 in
set_option maxHeartbeats 1000000 in
theorem gallop14 (b o n cap i : Nat) (Z : Nat → Int) (v : Int) (w : World) (hin : i ≤ n) (hn : n ≤ 100000) (hcap : n ≤ cap) (hcap2 : cap ≤ 100000) (hmono : Hid (∀ x y, x ≤ y → y < n → Z x ≤ Z y)) (hb : Hid (∀ i, i < n → w.cell? ⟨b, o + i, none⟩ = some (.int .i64 (Z i)))) :
    Calls Yba.prog 14 #[.slice (some ⟨b, o, none⟩) n cap, .int .i64 i, .int .i64 v] w fun e w' => w' = w ∧ ∃ (p : Nat), e = .returned (.int .i64 p) ∧ IsFirst Z n i v p := by
  go_enter Yba.func14, Yba.ntmps14
  go_wp2
  go_loopw [7, 8, 9] (fun l h s wr => ∃ (lo hi st : Nat), l = .int .i64 lo ∧ h = .int .i64 hi ∧ s = .int .i64 st ∧ i ≤ lo ∧ lo ≤ hi ∧ lo ≤ n ∧ 1 ≤ st ∧ st ≤ hi + 1 ∧ hi ≤ 2 * n + 1 ∧ (∀ x, i ≤ x → x < lo → Z x < v) ∧ wr = w) (fun _ h _ _ => n - (intOf h).toNat)
  case atStart => exact ⟨i, i, 1, rfl, rfl, rfl, by omega, by omega, by omega, by omega, by omega, by omega, by omega, rfl⟩
  case round =>
    obtain ⟨lo, hi, st, rfl, rfl, rfl, h1, h2, h3, h4, h5, h6, h7, rfl⟩ := hrel
    have H7 : Hid (∀ x, i ≤ x → x < lo → Z x < v) := h7
    clear h7
    by_cases hlt : hi < n
    · have c0 := hb.out hi hlt
      by_cases hz : Z hi < v
      · go_wp2
        go_roundw
        case rel =>
          refine ⟨hi + 1, hi + st, 2 * st, by go_num, by go_num, by go_num, by omega, by omega, by omega, by omega, by omega, by omega, ?_, trivial⟩
          intro x hx hx'
          have := hmono.out x hi (by omega) hlt
          omega
        case measure => simp [intOf]; omega
      · have m1 : ¬ n < hi := by omega
        by_cases hlh : lo = hi
        · subst hlh
          have e1 : ((lo : Int) == (lo : Int)) = true := by simp
          go_wp2_with fail
          go_ret
          exact ⟨rfl, lo, rfl, h1, h3, H7.out, fun _ => by omega⟩
        · have hcl : ¬ cap = lo := by omega
          have e1 : ((lo : Int) == (hi : Int)) = false := by simp; omega
          have k1 : (lo : Int) ≤ hi := by omega
          have k2 : (hi : Int) ≤ cap := by omega
          have Hs : Hid (∀ x, x < hi - lo → wr.cell? ⟨b, o + lo + x, none⟩ = some (.int .i64 (Z (lo + x)))) := fun x hx => by have := hb.out (lo + x) (by omega); rwa [← Nat.add_assoc] at this
          go_wp2_with (go_at_call 19; go_must (refine (search19 b (o + lo) (hi - lo) (cap - lo) (fun x => Z (lo + x)) v _ (by omega) Hs).mono ?_); rintro e w' ⟨rfl, p, f, rfl, hp, hp1, hp2⟩)
          go_ret
          refine ⟨rfl, lo + p, by go_num, by omega, by omega, ?_, ?_⟩
          · intro x hx hx'
            rcases Nat.lt_or_ge x lo with h | h
            · exact H7.out x hx h
            · have := hmono.out x (lo + (p - 1)) (by omega) (by omega)
              have := hp1 (by omega)
              omega
          · intro hpn
            rcases Nat.lt_or_ge p (hi - lo) with h | h
            · exact hp2 h
            · obtain rfl : p = hi - lo := by omega
              rw [show lo + (hi - lo) = hi from by omega]
              omega
    · by_cases hln : lo = n
      · subst hln
        have e1 : ((lo : Int) == (lo : Int)) = true := by simp
        by_cases m1 : lo < hi
        · go_wp2_with fail
          go_ret
          exact ⟨rfl, lo, rfl, h1, h3, H7.out, fun _ => by omega⟩
        · obtain rfl : hi = lo := by omega
          go_wp2_with fail
          go_ret
          exact ⟨rfl, hi, rfl, h1, h3, H7.out, fun _ => by omega⟩
      · have hcl : ¬ cap = lo := by omega
        have e1 : ((lo : Int) == (n : Int)) = false := by simp; omega
        have k1 : (lo : Int) ≤ n := by omega
        have k2 : (n : Int) ≤ cap := by omega
        have Hs : Hid (∀ x, x < n - lo → wr.cell? ⟨b, o + lo + x, none⟩ = some (.int .i64 (Z (lo + x)))) := fun x hx => by have := hb.out (lo + x) (by omega); rwa [← Nat.add_assoc] at this
        have fin : ∀ p, p ≤ n - lo → (0 < p → Z (lo + (p - 1)) < v) → (p < n - lo → v ≤ Z (lo + p)) → IsFirst Z n i v (lo + p) := by
          intro p hp hp1 hp2
          refine ⟨by omega, by omega, ?_, fun h => hp2 (by omega)⟩
          intro x hx hx'
          rcases Nat.lt_or_ge x lo with h | h
          · exact H7.out x hx h
          · have := hmono.out x (lo + (p - 1)) (by omega) (by omega)
            have := hp1 (by omega)
            omega
        by_cases m1 : n < hi
        · go_wp2_with (go_at_call 19; go_must (refine (search19 b (o + lo) (n - lo) (cap - lo) (fun x => Z (lo + x)) v _ (by omega) Hs).mono ?_); rintro e w' ⟨rfl, p, f, rfl, hp, hp1, hp2⟩)
          go_ret
          exact ⟨rfl, lo + p, by go_num, fin p hp hp1 hp2⟩
        · obtain rfl : hi = n := by omega
          go_wp2_with (go_at_call 19; go_must (refine (search19 b (o + lo) (hi - lo) (cap - lo) (fun x => Z (lo + x)) v _ (by omega) Hs).mono ?_); rintro e w' ⟨rfl, p, f, rfl, hp, hp1, hp2⟩)
          go_ret
          exact ⟨rfl, lo + p, by go_num, fin p hp hp1 hp2⟩
