import Derived.Test.YbulkabsyRows
import Derived.Test.YbulkabsyPop
import Derived.Laws.Bits128
import Derived.Laws.BitsAllLaws
import Derived.WalkKit
import Derived.WalkSpells
import Derived.WalkLawsBesides
import Derived.ProofKit
import Derived.Below
namespace Go.Proofs.Ybulkabsy.Ones
open Go.RowKit Go.Proofs.Ybulkabsy.Pop
set_option linter.unusedVariables false
set_option linter.unusedSimpArgs false

theorem facts (x : Nat) (hx : x < 18446744073709551616) : ∃ a1 a2 b1 b2 c : Nat,
    bits .and .u64 ((x : Int) / 2) 6148914691236517205 = (a1 : Int) ∧ bits .and .u64 (x : Int) 6148914691236517205 = (a2 : Int) ∧ a1 ≤ 6148914691236517205 ∧ a2 ≤ 6148914691236517205 ∧
    bits .and .u64 (((a1 : Int) + a2) / 4) 3689348814741910323 = (b1 : Int) ∧ bits .and .u64 ((a1 : Int) + a2) 3689348814741910323 = (b2 : Int) ∧ b1 ≤ 3689348814741910323 ∧ b2 ≤ 3689348814741910323 ∧
    bits .and .u64 (((b1 : Int) + b2) / 16 + ((b1 : Int) + b2)) 1085102592571150095 = (c : Int) ∧ c < 18446744073709551616 / 16 ∧ c + c / 256 < 18446744073709551616 / 8 ∧ (c + c / 256) + (c + c / 256) / 65536 < 18446744073709551616 / 4 ∧
      ((c + c / 256) + (c + c / 256) / 65536 + ((c + c / 256) + (c + c / 256) / 65536) / 4294967296) < 18446744073709551616 / 2 ∧
      ((c + c / 256) + (c + c / 256) / 65536 + ((c + c / 256) + (c + c / 256) / 65536) / 4294967296) % 128 = pop x := by
  have l1 : (x / 2) &&& 6148914691236517205 ≤ 6148914691236517205 := Nat.and_le_right
  have l2 : x &&& 6148914691236517205 ≤ 6148914691236517205 := Nat.and_le_right
  have q1 := u64_and_nat (x / 2) 6148914691236517205 (by omega) (by omega)
  have q2 := u64_and_nat x 6148914691236517205 hx (by omega)
  have hR1 : R1 8 x = (x / 2 &&& 6148914691236517205) + (x &&& 6148914691236517205) := by unfold R1; rw [m1_8]
  generalize ha1 : (x / 2) &&& 6148914691236517205 = a1 at *
  generalize ha2 : x &&& 6148914691236517205 = a2 at *
  have l3 : ((a1 + a2) / 4) &&& 3689348814741910323 ≤ 3689348814741910323 := Nat.and_le_right
  have l4 : (a1 + a2) &&& 3689348814741910323 ≤ 3689348814741910323 := Nat.and_le_right
  have q3 := u64_and_nat ((a1 + a2) / 4) 3689348814741910323 (by omega) (by omega)
  have q4 := u64_and_nat (a1 + a2) 3689348814741910323 (by omega) (by omega)
  have hR2 : R2 8 (a1 + a2) = ((a1 + a2) / 4 &&& 3689348814741910323) + ((a1 + a2) &&& 3689348814741910323) := by unfold R2; rw [m2_8]
  generalize hb1 : ((a1 + a2) / 4) &&& 3689348814741910323 = b1 at *
  generalize hb2 : (a1 + a2) &&& 3689348814741910323 = b2 at *
  have q5 := u64_and_nat ((b1 + b2) / 16 + (b1 + b2)) 1085102592571150095 (by omega) (by omega)
  have hR3 : R3 8 (b1 + b2) = ((b1 + b2) / 16 + (b1 + b2)) &&& 1085102592571150095 := by unfold R3; rw [m3_8]
  have hC : R3 8 (b1 + b2) = C 8 x := by rw [← hR2, ← hR1]; exact R_eq 8 x
  rw [← hR3, hC] at q5
  have hp : ∀ y, pc8 (y % 256) ≤ 8 := fun y => pc8_le ⟨y % 256, by omega⟩
  have hs := sums (pc8 (x % 256)) (pc8 (x / 256 % 256)) (pc8 (x / 256 / 256 % 256)) (pc8 (x / 256 / 256 / 256 % 256)) (pc8 (x / 256 / 256 / 256 / 256 % 256)) (pc8 (x / 256 / 256 / 256 / 256 / 256 % 256))
    (pc8 (x / 256 / 256 / 256 / 256 / 256 / 256 % 256)) (pc8 (x / 256 / 256 / 256 / 256 / 256 / 256 / 256 % 256)) (hp _) (hp _) (hp _) (hp _) (hp _) (hp _) (hp _) (hp _)
    (C 8 x) (C 7 (x / 256)) (C 6 (x / 256 / 256)) (C 5 (x / 256 / 256 / 256)) (C 4 (x / 256 / 256 / 256 / 256)) (C 3 (x / 256 / 256 / 256 / 256 / 256)) (C 2 (x / 256 / 256 / 256 / 256 / 256 / 256)) (C 1 (x / 256 / 256 / 256 / 256 / 256 / 256 / 256))
    rfl rfl rfl rfl rfl rfl rfl rfl
  have hP : pop x = pc8 (x % 256) + pc8 (x / 256 % 256) + pc8 (x / 256 / 256 % 256) + pc8 (x / 256 / 256 / 256 % 256) + pc8 (x / 256 / 256 / 256 / 256 % 256) + pc8 (x / 256 / 256 / 256 / 256 / 256 % 256) +
      pc8 (x / 256 / 256 / 256 / 256 / 256 / 256 % 256) + pc8 (x / 256 / 256 / 256 / 256 / 256 / 256 / 256 % 256) := by
    have := P_eq 8 x
    unfold pop
    rw [← this]
    simp only [P]
    omega
  rw [← hP] at hs
  refine ⟨a1, a2, b1, b2, C 8 x, ?_, q2, l1, l2, ?_, ?_, l3, l4, ?_, hs⟩
  · rw [← q1]; simp
  · rw [← q3]; simp
  · rw [← q4]; simp
  · rw [← q5]; simp

set_option maxRecDepth 100000 in
set_option maxHeartbeats 1000000 in
/-- math/bits.OnesCount64. -/
theorem ones (x : Nat) (hx : x < 18446744073709551616) (w : World) : Calls Yba.prog 16 #[.int .u64 x] w fun e w' => e = .returned (.int .i64 (pop x)) ∧ w' = w := by
  obtain ⟨a1, a2, b1, b2, c, q1, q2, l1, l2, q3, q4, l3, l4, q5, s1, s2, s3, s4, s5⟩ := facts x hx
  have Hs : Hid (((c + c / 256) + (c + c / 256) / 65536 + ((c + c / 256) + (c + c / 256) / 65536) / 4294967296) % 128 = pop x) := s5
  clear s5
  have h127 := fun n => i64_and127 n
  go_enter Yba.func16, Yba.ntmps16
  go_wp2
  go_ret
  have e : ((c : Int) + c / 256 + ((c : Int) + c / 256) / 65536 + ((c : Int) + c / 256 + ((c : Int) + c / 256) / 65536) / 4294967296) % 128 = (pop x : Int) := by rw [← Hs.out]; simp
  exact ⟨congrArg (fun n => Ending.returned (.int .i64 n)) e, rfl⟩
end Go.Proofs.Ybulkabsy.Ones
