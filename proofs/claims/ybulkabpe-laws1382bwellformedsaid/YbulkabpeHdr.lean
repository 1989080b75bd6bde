import Derived.Test.YbulkabpeRows
import Derived.WalkKit
import Derived.WalkSpells
import Derived.WalkLawsBesides
import Derived.ProofKit
import Derived.Below
import Derived.RegionTactic
import Derived.Deep.QuietTactic
import Derived.BigQuiet
import Derived.Deep.DeepCutAuto
import Derived.Deep.CutBlock
namespace Go.Proofs.Ybulkabpe.Hdr
open Go.RowKit
set_option linter.unusedVariables false

/-- What readHeader hands back: an error beside the zero header; or a header within the octets given. -/
def Post (len : Nat) (e : Ending) : Prop :=
  (∃ k : Int, e = .returned (.tuple #[.agg #[.int .u64 0, .bool false, .int .i64 0, .int .i64 0], .iface 51 (.int .u8 k)])) ∨
  ∃ (t : Int) (c : Bool) (s l : Int), e = .returned (.tuple #[.agg #[.int .u64 t, .bool c, .int .i64 s, .int .i64 l], .nilIface]) ∧
    1 ≤ t ∧ t < 18446744073709551616 ∧ 2 ≤ s ∧ s ≤ len ∧ (l = -1 ∨ 0 ≤ l) ∧ s + l ≤ len

set_option maxRecDepth 100000 in
set_option maxHeartbeats 400000 in
theorem empty (a : Option Addr) (cap : Nat) (w : World) :
    Calls Yba.prog 11 #[.slice a 0 cap] w fun e w' => Post 0 e ∧ Below w.heap.size w w' := by
  go_enter Yba.func11, Yba.ntmps11
  go_wp2
  exact bodyPost_ret (v := .tuple #[.agg #[.int .u64 0, .bool false, .int .i64 0, .int .i64 0], .iface 51 (.int .u8 1)]) (by simp [results, Yba.results11, go_sem]) rfl ⟨.inl ⟨1, rfl⟩, (Below.refl _ _).alloc (Nat.le_refl _) _⟩

abbrev Z48 : Obj := .cells #[.int .u64 0, .bool false, .int .i64 0, .int .i64 0] 48
abbrev H48 (t : Int) (c : Bool) (s l : Int) : Obj := .cells #[.int .u64 t, .bool c, .int .i64 s, .int .i64 l] 48

theorem one_of_31 (x : Int) (h0 : 0 ≤ x) (h : (x % 32 == 31) = true) : 1 ≤ x := by
  have := beq_iff_eq.1 h
  omega
theorem wraps_u64' (n : Int) (h₀ : 0 ≤ n) (h₁ : n < 2 ^ 64) : IntKind.u64.wrap n = n := by rw [IntKind.wrap_u64]; omega
theorem wraps_i64' (n : Int) (h₀ : 0 ≤ n) (h₁ : n < 2 ^ 63) : IntKind.i64.wrap n = n := by rw [IntKind.wrap_i64]; omega
theorem or8_u64 (t o : Int) (h0 : 0 ≤ t) (h1 : t < 72057594037927936) (h2 : 0 ≤ o) (h3 : o < 256) : bits .or .u64 (t * 256) o = t * 256 + o :=
  bits_join .u64 64 (by decide) wraps_u64' 8 (t * 256) o (by omega) (by omega) (by omega) h2 (by omega) (by omega)
theorem or8_i64 (t o : Int) (h0 : 0 ≤ t) (h1 : t < 36028797018963968) (h2 : 0 ≤ o) (h3 : o < 256) : bits .or .i64 (t * 256) o = t * 256 + o :=
  bits_join .i64 63 (by decide) wraps_i64' 8 (t * 256) o (by omega) (by omega) (by omega) h2 (by omega) (by omega)
theorem and127 (x : Int) (h0 : 0 ≤ x) (h1 : x < 256) (h2 : ¬ x < 128) (h3 : (x == 128) = false) : ∃ n : Nat, bits .and .u8 x 127 = (n : Int) ∧ 1 ≤ n ∧ n ≤ 127 := by
  have e := bits_mask .u8 8 (by decide) wraps_u8 7 (by decide) x h0 (by omega)
  have h3 := beq_eq_false_iff_ne.1 h3
  refine ⟨(x % 128).toNat, ?_, by omega, by omega⟩
  have e' : bits .and .u8 x 127 = x % 128 := e
  rw [e']
  omega
theorem pow_small (k : Nat) (t : Int) (hk : k < 8) (ht : t < 256 ^ k) : t < 72057594037927936 := by
  have h : k = 0 ∨ k = 1 ∨ k = 2 ∨ k = 3 ∨ k = 4 ∨ k = 5 ∨ k = 6 ∨ k = 7 := by omega
  rcases h with rfl | rfl | rfl | rfl | rfl | rfl | rfl | rfl <;> omega
theorem pow_step (k : Nat) (t o : Int) (ht : t < 256 ^ k) (ho : o < 256) : t * 256 + o < 256 ^ (k + 1) := by
  rw [Int.pow_succ]; omega

theorem one_of_32 (x : Int) (h0 : 0 ≤ x) (h : (bits .andNot .u8 x 32 == 0) = false) : 1 ≤ x := by
  rcases Int.lt_or_le x 1 with hx | hx
  · have : x = 0 := by omega
    subst this
    exact absurd h (by decide)
  · exact hx

set_option maxRecDepth 100000 in
set_option maxHeartbeats 1000000 in
theorem any (b off len cap : Nat) (z : Nat → Int) (w : World) (hl0 : 0 < len) (hlen : len ≤ 65536) (hm : cap ≤ 9223372036854775807) (hcap : len ≤ cap) (hb : b < w.heap.size)
    (hc : ∀ j, j < len → w.cell? ⟨b, off + j, none⟩ = some (.int .u8 (z j))) (hz : ∀ j, 0 ≤ z j ∧ z j < 256) :
    Calls Yba.prog 11 #[.slice (some ⟨b, off, none⟩) len cap] w fun e w' => Post len e ∧ Below w.heap.size w w' := by
  have c0 : w.cell? ⟨b, off, none⟩ = some (.int .u8 (z 0)) := by simpa using hc 0 hl0
  have l0 : (0 : Int) < (len : Int) := by omega
  obtain ⟨hz0, hz0'⟩ := hz 0
  have hn0 : ((len : Int) == 0) = false := beq_eq_false_iff_ne.2 (by omega)
  go_enter Yba.func11, Yba.ntmps11
  go_wp2
  go_region
  go_upto_block 0 with fail
  go_cut [5] (fun i wx => ∃ (k : Nat) (t : Int), 1 ≤ k ∧ k ≤ len ∧ i = .int .i64 k ∧ 1 ≤ t ∧ t < 18446744073709551616 ∧ wx = ((w.alloc Z48).alloc (H48 t (bits .and .u8 (z 0) 32 != 0) 0 0)).drew)
  case first =>
    by_cases h31 : (z 0 % 32 == 31) = true
    · have hz1 := one_of_31 _ hz0 h31
      go_wp2
      go_loopw [5] (fun i wr => ∃ (k : Nat) (t : Int), 1 ≤ k ∧ k ≤ 8 ∧ k ≤ len ∧ i = .int .i64 k ∧ 1 ≤ t ∧ t < 256 ^ k ∧ wr = ((w.alloc Z48).alloc (H48 t (bits .and .u8 (z 0) 32 != 0) 0 0)).drew) (fun i _ => 8 - (intOf i).toNat)
      case atStart => exact ⟨1, z 0, by omega, by omega, by omega, rfl, hz1, by omega, rfl⟩
      case round =>
        obtain ⟨k, t, hk1, hk8, hkl, rfl, ht1, ht2, rfl⟩ := hrel
        have Hp : Hid (t < 256 ^ k) := ht2
        clear ht2
        by_cases hkl' : k = len
        · have e1 : ((k : Int) == (len : Int)) = true := beq_iff_eq.2 (by omega)
          go_wp2
          exact bodyPost_ret (v := .tuple #[.agg #[.int .u64 0, .bool false, .int .i64 0, .int .i64 0], .iface 51 (.int .u8 1)]) (by simp [results, Yba.results11, go_sem]) rfl ⟨.inl ⟨1, rfl⟩, (((Below.refl _ _).alloc (Nat.le_refl _) _).alloc (by simp) _).drew⟩
        have e1 : ((k : Int) == (len : Int)) = false := beq_eq_false_iff_ne.2 (by omega)
        by_cases hk8' : k = 8
        · have e2 : ((k : Int) == 8) = true := beq_iff_eq.2 (by omega)
          go_wp2
          exact bodyPost_ret (v := .tuple #[.agg #[.int .u64 0, .bool false, .int .i64 0, .int .i64 0], .iface 51 (.int .u8 4)]) (by simp [results, Yba.results11, go_sem]) rfl ⟨.inl ⟨4, rfl⟩, (((Below.refl _ _).alloc (Nat.le_refl _) _).alloc (by simp) _).drew⟩
        have e2 : ((k : Int) == 8) = false := beq_eq_false_iff_ne.2 (by omega)
        have hkn : k < len := by omega
        have ht3 := pow_small k t (by omega) Hp.out
        obtain ⟨hzk, hzk'⟩ := hz k
        have hor := or8_u64 t (z k) (by omega) ht3 hzk hzk'
        have hcell := hc k hkn
        have Hn : Hid (t * 256 + z k < 256 ^ (k + 1)) := pow_step k t (z k) Hp.out hzk'
        by_cases hend : (bits .and .u8 (z k) 128 == 0) = true
        · have l1 : (1 : Int) < (len : Int) := by omega
          have c1 := hc 1 (by omega)
          obtain ⟨hz1, hz1'⟩ := hz 1
          by_cases g1 : (z 1 == 128) = true
          · go_wp2
            exact bodyPost_ret (v := .tuple #[.agg #[.int .u64 0, .bool false, .int .i64 0, .int .i64 0], .iface 51 (.int .u8 4)]) (by simp [results, Yba.results11, go_sem]) rfl ⟨.inl ⟨4, rfl⟩, (((Below.refl _ _).alloc (Nat.le_refl _) _).alloc (by simp) _).drew⟩
          have g1 : (z 1 == 128) = false := by simpa using g1
          by_cases g2 : ((k : Int) + 1 == 2) = true
          · by_cases g3 : z 1 < 31
            · go_wp2
              exact bodyPost_ret (v := .tuple #[.agg #[.int .u64 0, .bool false, .int .i64 0, .int .i64 0], .iface 51 (.int .u8 4)]) (by simp [results, Yba.results11, go_sem]) rfl ⟨.inl ⟨4, rfl⟩, (((Below.refl _ _).alloc (Nat.le_refl _) _).alloc (by simp) _).drew⟩
            · go_wp2
              go_meet
              case rel => exact ⟨k + 1, _, by omega, by omega, by go_num, by omega, by omega, rfl⟩
          · have g2 : ((k : Int) + 1 == 2) = false := by simpa using g2
            go_wp2
            go_meet
            case rel => exact ⟨k + 1, _, by omega, by omega, by go_num, by omega, by omega, rfl⟩
        · have hend : (bits .and .u8 (z k) 128 == 0) = false := by simpa using hend
          go_wp2
          go_roundw
          case rel => exact ⟨k + 1, _, by omega, by omega, by omega, by go_num, by omega, Hn.out, rfl⟩
          case measure => simp [intOf]; omega
    · have h31 : (z 0 % 32 == 31) = false := by simpa using h31
      by_cases h32 : (bits .andNot .u8 (z 0) 32 == 0) = true
      · go_wp2
        exact bodyPost_ret (v := .tuple #[.agg #[.int .u64 0, .bool false, .int .i64 0, .int .i64 0], .iface 51 (.int .u8 4)]) (by simp [results, Yba.results11, go_sem]) rfl ⟨.inl ⟨4, rfl⟩, (((Below.refl _ _).alloc (Nat.le_refl _) _).alloc (by simp) _).drew⟩
      · have h32 : (bits .andNot .u8 (z 0) 32 == 0) = false := by simpa using h32
        have hz1 := one_of_32 _ hz0 h32
        go_wp2
        go_meet
        case rel => exact ⟨1, z 0, by omega, by omega, rfl, hz1, by omega, rfl⟩
  case rest =>
    obtain ⟨k, t, hk1, hk, rfl, ht1, ht2, rfl⟩ := hcut
    clear c0 hz0 hz0' l0 hn0
    generalize (bits .and .u8 (z 0) 32 != 0) = c
    by_cases hkl' : k = len
    · have e1 : ((k : Int) == (len : Int)) = true := beq_iff_eq.2 (by omega)
      go_wp2
      exact bodyPost_ret (v := .tuple #[.agg #[.int .u64 0, .bool false, .int .i64 0, .int .i64 0], .iface 51 (.int .u8 1)]) (by simp [results, Yba.results11, go_sem]) rfl ⟨.inl ⟨1, rfl⟩, (((Below.refl _ _).alloc (Nat.le_refl _) _).alloc (by simp) _).drew⟩
    have e1 : ((k : Int) == (len : Int)) = false := beq_eq_false_iff_ne.2 (by omega)
    have hcell := hc k (by omega)
    have hkn : k < len := by omega
    obtain ⟨hzk, hzk'⟩ := hz k
    go_upto_block 3 with fail
    go_cut [5] (fun i wx => ∃ (s : Nat) (l : Int), i = .int .i64 s ∧ k + 1 ≤ s ∧ s ≤ len ∧ (l = -1 ∨ 0 ≤ l) ∧ wx = ((w.alloc Z48).alloc (H48 t c 0 l)).drew)
    case first =>
      by_cases g1 : z k < 128
      · go_wp2
        go_meet
        case rel => exact ⟨k + 1, _, by go_num, by omega, by omega, .inr hzk, rfl⟩
      by_cases g2 : (z k == 128) = true
      · cases c
        · go_wp2
          exact bodyPost_ret (v := .tuple #[.agg #[.int .u64 0, .bool false, .int .i64 0, .int .i64 0], .iface 51 (.int .u8 2)]) (by simp [results, Yba.results11, go_sem]) rfl ⟨.inl ⟨2, rfl⟩, (((Below.refl _ _).alloc (Nat.le_refl _) _).alloc (by simp) _).drew⟩
        · go_wp2
          go_meet
          case rel => exact ⟨k + 1, -1, by go_num, by omega, by omega, .inl rfl, rfl⟩
      have g2 : (z k == 128) = false := by simpa using g2
      by_cases g3 : (z k == 255) = true
      · go_wp2
        exact bodyPost_ret (v := .tuple #[.agg #[.int .u64 0, .bool false, .int .i64 0, .int .i64 0], .iface 51 (.int .u8 2)]) (by simp [results, Yba.results11, go_sem]) rfl ⟨.inl ⟨2, rfl⟩, (((Below.refl _ _).alloc (Nat.le_refl _) _).alloc (by simp) _).drew⟩
      have g3 : (z k == 255) = false := by simpa using g3
      obtain ⟨n, hn, hn1, hn2⟩ := and127 (z k) hzk hzk' g1 g2
      by_cases g4 : (len : Int) - (k + 1) < n
      · go_wp2
        exact bodyPost_ret (v := .tuple #[.agg #[.int .u64 0, .bool false, .int .i64 0, .int .i64 0], .iface 51 (.int .u8 1)]) (by simp [results, Yba.results11, go_sem]) rfl ⟨.inl ⟨1, rfl⟩, (((Below.refl _ _).alloc (Nat.le_refl _) _).alloc (by simp) _).drew⟩
      have hne : ¬ cap = k + 1 := by omega
      go_wp2
      go_loopw [112] (fun j wr => ∃ (m : Nat) (l : Int), m ≤ n ∧ j = .int .i64 m ∧ 0 ≤ l ∧ l ≤ len ∧ wr = ((w.alloc Z48).alloc (H48 t c 0 l)).drew) (fun j _ => n - (intOf j).toNat)
      case atStart => exact ⟨0, 0, by omega, rfl, by omega, by omega, rfl⟩
      case round =>
        obtain ⟨m, l, hmn, rfl, hl0, hl1, rfl⟩ := hrel
        by_cases hlt : m < n
        · have hcm := hc (k + 1 + m) (by omega)
          have hcm' : w.cell? ⟨b, off + (k + 1) + m, none⟩ = some (.int .u8 (z (k + 1 + m))) := by rw [← hcm]; congr 2; omega
          obtain ⟨hzm, hzm'⟩ := hz (k + 1 + m)
          have hor := or8_i64 l (z (k + 1 + m)) (by omega) (by omega) hzm hzm'
          clear hcm
          by_cases g5 : (len : Int) < l * 256 + z (k + 1 + m)
          · go_wp2
            exact bodyPost_ret (v := .tuple #[.agg #[.int .u64 0, .bool false, .int .i64 0, .int .i64 0], .iface 51 (.int .u8 1)]) (by simp [results, Yba.results11, go_sem]) rfl ⟨.inl ⟨1, rfl⟩, (((Below.refl _ _).alloc (Nat.le_refl _) _).alloc (by simp) _).drew⟩
          · go_wp2
            go_roundw
            case rel => exact ⟨m + 1, _, by omega, by go_num, by omega, by omega, rfl⟩
            case measure => simp [intOf]; omega
        · go_wp2
          go_meet
          case rel => exact ⟨k + 1 + n, l, by go_num, by omega, by omega, .inr hl0, rfl⟩
    case rest =>
      obtain ⟨s, l, rfl, hs1, hs2, hl, rfl⟩ := hcut
      by_cases g : (len : Int) - s < l
      · go_wp2
        exact bodyPost_ret (v := .tuple #[.agg #[.int .u64 0, .bool false, .int .i64 0, .int .i64 0], .iface 51 (.int .u8 1)]) (by simp [results, Yba.results11, go_sem]) rfl ⟨.inl ⟨1, rfl⟩, (((Below.refl _ _).alloc (Nat.le_refl _) _).alloc (by simp) _).drew⟩
      · go_wp2
        exact bodyPost_ret (v := .tuple #[.agg #[.int .u64 t, .bool c, .int .i64 s, .int .i64 l], .nilIface]) (by simp [results, Yba.results11, go_sem]) rfl ⟨.inr ⟨t, c, s, l, rfl, ht1, ht2, by omega, by omega, hl, by omega⟩, (((Below.refl _ _).alloc (Nat.le_refl _) _).alloc (by simp) _).drew⟩

theorem and32_small : ∀ a : Fin 31, bits .and .u8 ((a.val : Nat) : Int) 32 = 0 := by decide
theorem andNot32_small : ∀ a : Fin 31, (bits .andNot .u8 (((a.val : Nat) : Int)) 32 == 0) = decide (a.val = 0) := by decide

set_option maxRecDepth 100000 in
set_option maxHeartbeats 1000000 in
/-- A primitive element with a one-octet tag and a short length: the header, exactly. -/
theorem short (b off len cap : Nat) (z : Nat → Int) (w : World) (hlen : len ≤ 65536) (hm : cap ≤ 9223372036854775807) (hcap : len ≤ cap) (hb : b < w.heap.size)
    (hc : ∀ j, j < len → w.cell? ⟨b, off + j, none⟩ = some (.int .u8 (z j))) (h0 : 1 ≤ z 0) (h0' : z 0 ≤ 30) (h1 : 0 ≤ z 1) (h1' : z 1 ≤ 127) (hfit : 2 + z 1 ≤ (len : Int)) :
    Calls Yba.prog 11 #[.slice (some ⟨b, off, none⟩) len cap] w fun e w' =>
      e = .returned (.tuple #[.agg #[.int .u64 (z 0), .bool false, .int .i64 2, .int .i64 (z 1)], .nilIface]) ∧ Below w.heap.size w w' := by
  have c0 : w.cell? ⟨b, off, none⟩ = some (.int .u8 (z 0)) := by simpa using hc 0 (by omega)
  have c1 := hc 1 (by omega)
  have l0 : (0 : Int) < (len : Int) := by omega
  have l1 : (1 : Int) < (len : Int) := by omega
  have hn0 : ((len : Int) == 0) = false := beq_eq_false_iff_ne.2 (by omega)
  have hn1 : ((1 : Int) == (len : Int)) = false := beq_eq_false_iff_ne.2 (by omega)
  have h31 : (z 0 % 32 == 31) = false := beq_eq_false_iff_ne.2 (by omega)
  obtain ⟨a, ha⟩ := Int.eq_ofNat_of_zero_le (show 0 ≤ z 0 by omega)
  have h32 : bits .and .u8 (z 0) 32 = 0 := by rw [ha]; exact and32_small ⟨a, by omega⟩
  have h33 : (bits .andNot .u8 (z 0) 32 == 0) = false := by
    rw [ha]; exact (andNot32_small ⟨a, by omega⟩).trans (by simp; omega)
  clear ha hc
  go_enter Yba.func11, Yba.ntmps11
  go_wp2
  go_region
  go_wp2
  exact bodyPost_ret (v := .tuple #[.agg #[.int .u64 (z 0), .bool false, .int .i64 2, .int .i64 (z 1)], .nilIface]) (by simp [results, Yba.results11, go_sem]) rfl ⟨rfl, (((Below.refl _ _).alloc (Nat.le_refl _) _).alloc (by simp) _).drew⟩
end Go.Proofs.Ybulkabpe.Hdr
