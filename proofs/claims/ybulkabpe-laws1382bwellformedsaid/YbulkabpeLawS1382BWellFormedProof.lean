/-
  The proof of 'Rows.LawS1382BWellFormedSaid' (the frame written by the kit's tool; the walk: YbulkabpeWell.lean).
-/
import Derived.Test.YbulkabpeRows
import Derived.Test.YbulkabpeWell
import Derived.WalkKit
import Derived.ProofKit
import Derived.OpenShut
import Derived.ShutString
import Derived.ChangeOld
import Derived.Below
import Derived.Deep.SlicePairs
namespace Go.Proofs.Ybulkabpe.lawS1382BWellFormed
open Go.ChangeShapes Go.WideShapes Go.ChangeAt Go.RowKit
open Go.ChangeMaps (open_string shut_string)
set_option linter.unusedVariables false

theorem own : ownKnob Yba.prog.godebug = none := by kernel_rfl
theorem laidOut : laidOutB Yba.prog = true := by kernel_rfl

theorem cells25 : Yba.prog.cellsOf 25 = 2 := by kernel_rfl
theorem cells5 : Yba.prog.cellsOf 5 = 1 := by kernel_rfl

/-- One item, as it reads. -/
def One (w : World) (v0 v1 : Value) (q : Int × Option Addr × Nat × Nat × (Nat → Int)) : Prop :=
  v0 = .int .u8 q.1 ∧ (0 ≤ q.1 ∧ q.1 < 256) ∧ v1 = .slice q.2.1 q.2.2.1 q.2.2.2.1 ∧ (q.2.2.1 ≤ q.2.2.2.1 ∧ q.2.2.2.1 ≤ 9223372036854775807) ∧ (q.2.1 = none → q.2.2.1 = 0 ∧ q.2.2.2.1 = 0) ∧
    (0 < q.2.2.1 → ∃ bb oo, q.2.1 = some ⟨bb, oo, none⟩ ∧ bb < w.heap.size ∧ ∀ j, j < q.2.2.1 → w.cell? ⟨bb, oo + j, none⟩ = some (.int .u8 (q.2.2.2.2 j)))

theorem one_of {H : Type} {enc : TypeId × Value → H} {w : World} {n : Nat} {v0 v1 : Value} {x0 x1 : DataW H × List MemPlace}
    (h0 : DataW.trod enc Yba.prog w 0 (fun _ => true) true n 5 [v0] = some x0) (h1 : DataW.trod enc Yba.prog w 0 (fun _ => true) true n 23 [v1] = some x1) : ∃ q, One w v0 v1 q := by
  obtain ⟨t, e0, _, wt⟩ := DataW.trod_int Yba.underlying5 h0
  simp at e0
  subst e0
  have ht := bounds_u8 wt
  rcases open_ints Yba.underlying23 Yba.underlying5 cells5 h1 with ⟨hcs, _⟩ | ⟨x, l, c, zs, hcs, _, hl, hm, hz, _, hcell, hwz⟩
  · simp at hcs
    subst hcs
    exact ⟨(t, none, 0, 0, fun _ => 0), rfl, ⟨ht.1, by have := ht.2; show t < 256; omega⟩, rfl, ⟨by show 0 ≤ 0; omega, by show (0 : Nat) ≤ 9223372036854775807; omega⟩, fun _ => ⟨rfl, rfl⟩, fun h => absurd h (by show ¬ 0 < 0; omega)⟩
  · simp at hcs
    subst hcs
    have hz' : zs.length = c := by simpa using hz
    refine ⟨(t, some x, l, c, fun j => zs.getD j 0), rfl, ⟨ht.1, by have := ht.2; show t < 256; omega⟩, rfl, ⟨hl, by unfold maxLen at hm; show c ≤ 9223372036854775807; omega⟩, fun h => by simp at h, fun hpos => ?_⟩
    have hpos' : 0 < l := hpos
    obtain ⟨bb, oo, spot⟩ := x
    have hc0 := hcell 0 (by omega)
    have hspot : spot = none := by simpa [Addr.add] using World.cell?_spot hc0
    subst hspot
    refine ⟨bb, oo, rfl, World.block_lt_of_cell? w ⟨bb, oo + 0, none⟩ (by rw [← add_plain]; exact hc0), fun j hj => ?_⟩
    have hj' : j < l := hj
    rw [← add_plain]
    exact hcell j (by omega)

theorem walk {H : Type} {enc : TypeId × Value → H} (a0 : Option Addr) (len0 cap0 : Nat) (w : World) (x : DataW H × List MemPlace) (fuel : Nat)
    (hf : DataW.trod enc Yba.prog w 0 (fun _ => true) true fuel 22 [.slice a0 len0 cap0] = some x) :
    Calls Yba.prog 3 #[.slice a0 len0 cap0] w fun e w' => e = .returned (.bool true) ∧ Below w.heap.size w w' := by
  rcases Go.Deep.open_slice_pairs Yba.underlying22 Yba.underlying25 cells25 rfl rfl (by kernel_rfl) (by kernel_rfl) hf with ⟨hcs, _⟩ | ⟨a, len, cap, m, n, V0, V1, D0, D1, P0, P1, hcs, _, hl, hm, hmm, _, hel⟩
  · simp at hcs
    obtain ⟨rfl, rfl, rfl⟩ := hcs
    exact Well.walk none 0 0 0 0 (fun _ => 0) (fun _ => none) (fun _ => 0) (fun _ => 0) (fun _ _ => 0) w
      ⟨fun h => by omega, fun i h => by omega, fun i h => by omega, fun i h => by omega, fun i h => by omega, fun i h => by omega, fun i h => by omega⟩ (fun h => by omega)
  · simp at hcs
    obtain ⟨rfl, rfl, rfl⟩ := hcs
    have hm' : m = cap0 := by simpa using hmm
    subst hm'
    obtain ⟨f, hf'⟩ := Go.Deep.choose_lt (fun i (hi : i < m) => one_of (hel i hi).2.2.1 (hel i hi).2.2.2)
    by_cases h0 : 0 < len0
    · obtain ⟨ib, io, spot⟩ := a
      have hc0 := (hel 0 (by omega)).1
      have hspot : spot = none := by simpa [Addr.add] using World.cell?_spot hc0
      subst hspot
      refine Well.walk (some ⟨ib, io, none⟩) ib io len0 m (fun i => (f i).1) (fun i => (f i).2.1) (fun i => (f i).2.2.1) (fun i => (f i).2.2.2.1) (fun i => (f i).2.2.2.2) w
        ⟨fun _ => World.block_lt_of_cell? w ⟨ib, io + 0 * 2, none⟩ (by rw [← add_plain]; exact hc0), fun i hi => ?_, fun i hi => ?_, fun i hi => ?_, fun i hi => ?_, fun i hi => ?_, fun i hi => ?_⟩ (fun _ => rfl)
      · have h1 := (hel i (by omega)).1
        rw [(hf' i (by omega)).1, add_plain] at h1
        exact h1
      · have h1 := (hel i (by omega)).2.1
        rw [(hf' i (by omega)).2.2.1, add_plain, ← Nat.add_assoc] at h1
        exact h1
      · exact (hf' i (by omega)).2.2.2.1
      · exact (hf' i (by omega)).2.2.2.2.1
      · exact (hf' i (by omega)).2.2.2.2.2
      · exact (hf' i (by omega)).2.1
    · obtain rfl : len0 = 0 := by omega
      exact Well.walk (some a) 0 0 0 m (fun _ => 0) (fun _ => none) (fun _ => 0) (fun _ => 0) (fun _ _ => 0) w
        ⟨fun h => by omega, fun i h => by omega, fun i h => by omega, fun i h => by omega, fun i h => by omega, fun i h => by omega, fun i h => by omega⟩ (fun h => by omega)

/-! ### THE ROW's STEP: WRITTEN OUT: LEAVE IT -/
set_option maxRecDepth 100000 in
theorem lifted (os : Os) (started : os.Started) (H : Type) (enc : TypeId × Value → H) :
    ReturnsInHanded {} Yba.checked os 3 .any (Rows.lawS1382BWellFormedSpec.pre6 enc Yba.prog Yba.f3 Rows.lawS1382BWellFormedRow.domain false) (Rows.lawS1382BWellFormedSpec.post enc Yba.prog Yba.f3 false true false false) := by
  refine returnsInHanded_of_change (C := Yba.checked) own started (by kernel_rfl) Yba.func3
    (ChangeSpec.witness6 (enc := enc) (C := Yba.checked) false ⟨#[], #[.slice none 0 0], []⟩ 8 (by kernel_rfl) (by kernel_rfl) (by kernel_rfl) (by kernel_rfl)) ?_
  intro W base args ds gs before hval0 hW hcnd _
  have hval : ∀ (j : Nat) t v, Yba.f3.params[j]? = some t → args[j]? = some v → Value.okWide Yba.prog W .any base t v := hval0
  have hW' := hW
  obtain ⟨p, q, hA0, hV, rfl, hfz, hnd⟩ := hW
  have hA : DataW.TrodAll enc Yba.prog W 0 (fun _ => true) true Yba.f3.params.toList args.toList ds p := hA0
  rw [Yba.params3] at hA hval
  obtain ⟨v0, vs0, d0, ds0, p0, q0, hargs, rfl, rfl, h0, r0⟩ := trodAll_cons hA
  obtain ⟨rfl, rfl, rfl⟩ := trodAll_nil r0
  obtain rfl : args = #[v0] := by cases args; simp_all
  obtain ⟨rfl, rfl⟩ := trodVars_none hV
  obtain ⟨a0, len0, cap0, rfl⟩ := okWide_slice Yba.underlying22 (hval 0 22 v0 rfl rfl)
  have k0 := h0
  have lt0 : ∀ x ∈ p0, x.block < W.heap.size := by obtain ⟨m, hm⟩ := k0; exact DataW.trod_lt m _ _ _ hm
  obtain ⟨fuel, hf⟩ := h0
  clear hA0 hval0
  refine (walk a0 len0 cap0 W _ fuel (by simpa [Value.cells] using hf)).mono fun e W' ⟨he, bel⟩ => ?_
  subst he
  exact ⟨_, rfl, _, _, _, [], _, [], hW', trodAll_mk1 (shut_bool Yba.underlying4 _), (trodAll_cons_mk (Below.trod laidOut (by kernel_rfl) (of_decide_eq_true (by kernel_rfl)) k0 bel lt0) trodAll_mk0), rfl, bel.frame _, fun h => by cases h⟩

theorem over : Rows.lawS1382BWellFormedRow.holds Yba.pinned (OpenSpec.ofChange Rows.lawS1382BWellFormedSpec) :=
  OpenClaim.holds_of_wide 3 Yba.f3 rfl rfl rfl rfl rfl rfl rfl ⟨rfl, rfl, rfl, rfl, rfl⟩ rfl rfl rfl rfl rfl (by kernel_rfl) Yba.func3 (by kernel_rfl)
    (of_decide_eq_true (by kernel_rfl)) (by unfold Func.isWrapper; first | (rw [if_pos (by decide +kernel)]; kernel_rfl) | (rw [if_neg (by decide +kernel)]; exact ⟨rfl, rfl⟩))
    (fun os started H enc _ => lifted os started H enc)

/-- ████ THE STATEMENT ████ -/
theorem proved : Rows.LawS1382BWellFormedSaid := over
#print axioms proved
end Go.Proofs.Ybulkabpe.lawS1382BWellFormed
