import Derived.Test.YbulkabsySoc
import Derived.Shelf.Lay
import Derived.Shelf.LaySoft
import Derived.Shelf.Small.Bits
import Derived.Shelf.Strconv.Itoa0
namespace Go.Proofs
open Go.Shelf
shelf_lay Lays.n125 Nm 125 at Yba as Yba.lays125
namespace Ybulkabsy.So
open Go.RowKit Go.Sort Go.Proofs.Ybulkabsy.Srch
set_option linter.unusedVariables false
set_option linter.unusedSimpArgs false

theorem len18 (x : Int) (w : World) (h0 : 0 ≤ x) (h1 : x ≤ 18446744073709551615) :
    Calls Yba.prog 18 #[.int .u64 x] w fun e w' => e = .returned (.int .i64 (Lib.bitLen x.toNat)) ∧ w' = w := Any.bits_Len Yba.lays125 x w h0 h1
#print axioms len18
theorem pow_bitLen : ∀ (f x : Nat), 0 < x → x < 2 ^ f → f ≤ 64 → 2 ^ Lib.bitLen x ≤ 2 * x := by
  intro f
  induction f with
  | zero => intro x h0 h1 _; omega
  | succ f ih =>
    intro x h0 h1 hf
    have hx64 : x < 2 ^ 64 := Nat.lt_of_lt_of_le h1 (Nat.pow_le_pow_right (by decide) hf)
    rw [Lib.bitLen_half x (by omega) hx64]
    by_cases h : x / 2 = 0
    · rw [h]
      have : x = 1 := by omega
      subst this
      decide
    · have := ih (x / 2) (by omega) (by rw [Nat.pow_succ] at h1; omega) (by omega)
      rw [Nat.pow_add]
      omega

theorem wrap_u64_range (x : Int) : 0 ≤ IntKind.u64.wrap x ∧ IntKind.u64.wrap x < 18446744073709551616 := by
  rw [IntKind.wrap_u64]; omega
set_option maxRecDepth 100000 in
theorem pow36 (x : Nat) (h0 : 1 ≤ x) (h1 : x ≤ 100000) (w : World) : Calls Yba.prog 36 #[.int .i64 x] w fun e w' => ∃ k : Nat, k ≤ 20 ∧ 2 ^ k ≤ 2 * x ∧ e = .returned (.int .u64 (2 ^ k)) ∧ w' = w := by
  have hp := pow_bitLen 17 x (by omega) (by omega) (by omega)
  obtain ⟨k, hk⟩ : ∃ k, k = Lib.bitLen x := ⟨_, rfl⟩
  rw [← hk] at hp
  have hk20 : k ≤ 20 := by
    rcases Nat.lt_or_ge 20 k with h | h
    · have : 2 ^ 21 ≤ 2 ^ k := Nat.pow_le_pow_right (by decide) h
      omega
    · exact h
  have HK : Hid (k = Lib.bitLen x) := hk
  have HP : Hid (2 ^ k ≤ 2 * x) := hp
  clear hk hp
  go_enter Yba.func36, Yba.ntmps36
  go_wp2_with (go_at_call 18; go_must (refine (len18 _ _ (by omega) (by omega)).mono ?_); rintro e w' ⟨rfl, rfl⟩; rw [show ((x : Int)).toNat = x from by simp, ← HK.out])
  go_ret
  refine ⟨k, hk20, HP.out, ?_, rfl⟩
  have hle : (2 : Int) ^ k ≤ 2 ^ 20 := by
    have : 2 ^ k ≤ 2 ^ 20 := Nat.pow_le_pow_right (by decide) hk20
    exact_mod_cast this
  have hge : (0 : Int) ≤ 2 ^ k := by
    have : 0 ≤ 2 ^ k := Nat.zero_le _
    exact_mod_cast this
  show Ending.returned (Value.int IntKind.u64 (IntKind.u64.wrap (2 ^ k))) = _
  rw [IntKind.wrap_u64, Int.emod_eq_of_lt hge (by omega)]
/-- The generator's cell holds v; all other blocks of w stand. -/
structure Xs (w w' : World) (rb : Nat) (v : Int) : Prop where
  grown : w.grownBy w' (some rb)
  cell : w'.cell? ⟨rb, 0, none⟩ = some (.int .u64 v)
  froz : w'.frozen? ⟨rb, 0, none⟩ = false
  lo : 0 ≤ v
  hi : v < 18446744073709551616
theorem Xs.trans {a b c : World} {rb : Nat} {u v : Int} (h : Xs a b rb u) (k : Xs b c rb v) : Xs a c rb v := ⟨grown_trans h.grown k.grown, k.cell, k.froz, k.lo, k.hi⟩
theorem Xs.drew {w w' : World} {rb : Nat} {v : Int} (h : Xs w w' rb v) : Xs w w'.drew rb v := ⟨⟨h.grown.os, h.grown.tape, h.grown.output, h.grown.size, h.grown.block⟩, h.cell, h.froz, h.lo, h.hi⟩
theorem Xs.set {w w' : World} {rb : Nat} {v : Int} (h : Xs w w' rb v) (u : Int) (h0 : 0 ≤ u) (h1 : u < 18446744073709551616) : Xs w (w'.setCell ⟨rb, 0, none⟩ (.int .u64 u)) rb u := by
  refine ⟨grown_trans h.grown (grown_set _ _ _ _), ?_, ?_, h0, h1⟩
  · have hc := h.cell
    obtain ⟨cs, e, fr, hb, hk⟩ := cells_of_cell? hc
    have hlt : 0 < cs.size := by
      rcases Nat.lt_or_ge 0 cs.size with h1 | h1
      · exact h1
      · rw [Array.getElem?_eq_none (by omega)] at hk; cases hk
    rw [setCell_eq, cell?_mapBlock _ _ _ _ hb]
    simp [hlt]
  · rw [setCell_eq, frozen?_mapBlock]
    exact h.froz
theorem xor_range (x y : Int) : 0 ≤ bits .xor .u64 x y ∧ bits .xor .u64 x y < 18446744073709551616 := wrap_u64_range _

set_option maxRecDepth 100000 in
set_option maxHeartbeats 1000000 in
theorem xor37 (rb : Nat) (v : Int) (w : World) (hX : Xs w w rb v) :
    Calls Yba.prog 37 #[.pointer (some ⟨rb, 0, none⟩)] w fun e w' => ∃ (u : Int), e = .returned (.int .u64 u) ∧ Xs w w' rb u := by
  have HX : Hid (Xs w w rb v) := hX
  have c0 := hX.cell
  have f0 := hX.froz
  clear hX
  go_enter Yba.func37, Yba.ntmps37
  go_upto_region 1 with fail
  go_cut [] (fun wx => ∃ u, Xs w wx rb u)
  case first =>
    go_region
    go_wp2
    go_meet
    case rel => exact ⟨_, (HX.out.set _ (xor_range _ _).1 (xor_range _ _).2).drew⟩
  case rest =>
    clear c0 f0 HX
    obtain ⟨u, hX⟩ := hcut
    have HX : Hid (Xs w wc rb u) := hX
    have c0 := hX.cell
    have f0 := hX.froz
    clear hX
    go_upto_region 2 with fail
    go_cut [] (fun wx => ∃ u, Xs w wx rb u)
    case first =>
      go_region
      go_wp2
      go_meet
      case rel => exact ⟨_, (HX.out.set _ (xor_range _ _).1 (xor_range _ _).2).drew⟩
    case rest =>
      clear c0 f0 HX
      obtain ⟨u, hX⟩ := hcut
      have HX : Hid (Xs w wc rb u) := hX
      have c0 := hX.cell
      have f0 := hX.froz
      clear hX
      go_upto_region 3 with fail
      go_cut [] (fun wx => ∃ u, Xs w wx rb u)
      case first =>
        go_region
        go_wp2
        go_meet
        case rel => exact ⟨_, (HX.out.set _ (xor_range _ _).1 (xor_range _ _).2).drew⟩
      case rest =>
        clear c0 f0 HX
        obtain ⟨u, hX⟩ := hcut
        have HX : Hid (Xs w wc rb u) := hX
        have c0 := hX.cell
        have f0 := hX.froz
        clear hX
        go_wp2
        go_ret
        exact ⟨u, rfl, HX.out⟩
end Ybulkabsy.So
end Go.Proofs
