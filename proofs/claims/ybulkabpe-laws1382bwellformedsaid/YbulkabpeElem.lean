import Derived.Test.YbulkabpeNext
namespace Go.Proofs.Ybulkabpe.Elem
open Go.RowKit Go.Proofs.Ybulkabpe.Mem
set_option linter.unusedVariables false
set_option linter.unusedSimpArgs false

abbrev Z35 : Obj := .cells #[.int .u64 0, .slice none 0 0] 35

set_option maxRecDepth 100000 in
set_option maxHeartbeats 1000000 in
/-- (*Elements).Next where nothing is left. -/
theorem done (sb : Nat) (a : Option Addr) (c : Nat) (ev : Value) (w : World) (hs : w.heap[sb]? = some (.cells #[.slice a 0 c, ev] 31 (0, 0))) :
    Calls Yba.prog 7 #[.pointer (some ⟨sb, 0, none⟩)] w fun e w' => e = .returned (.tuple #[.agg #[.int .u64 0, .slice none 0 0], .bool false]) ∧ Below w.heap.size w w' := by
  have hsz := lt_of_block hs
  have c0 : w.cell? ⟨sb, 0, none⟩ = some (.slice a 0 c) := by rw [cell_of_row _ _ _ _ _ _ hs]; rfl
  clear hs
  go_enter Yba.func7, Yba.ntmps7
  go_wp2
  exact bodyPost_ret (v := .tuple #[.agg #[.int .u64 0, .slice none 0 0], .bool false]) (by simp [results, Yba.results7, go_sem]) rfl ⟨rfl, (Below.refl _ _).alloc (Nat.le_refl _) _⟩

/-- What next hands back, with a word more on each arm. -/
def NPost (len : Nat) (Qe : Prop) (Q : Int → Nat → Nat → Nat → Prop) (e : Ending) : Prop :=
  (Qe ∧ ∃ k : Int, e = .returned (.tuple #[.agg #[.int .u64 0, .int .i64 0, .int .i64 0, .int .i64 0], .iface 51 (.int .u8 k)])) ∨
  ∃ (t : Int) (s n x : Nat), e = .returned (.tuple #[.agg #[.int .u64 t, .int .i64 s, .int .i64 n, .int .i64 x], .nilIface]) ∧
    (1 ≤ t ∧ t < 18446744073709551616 ∧ 2 ≤ s ∧ s ≤ n ∧ n ≤ x ∧ x ≤ len) ∧ Q t s n x

/-- What Next leaves, where octets are left: the element cannot be read, and the walk has ended with an error; or the element, and what follows it. -/
def Post (sb b off len cap : Nat) (Qe : Prop) (Q : Int → Nat → Nat → Nat → Prop) (w : World) (e : Ending) (w' : World) : Prop :=
  Below sb w w' ∧
  ((Qe ∧ ∃ k : Int, e = .returned (.tuple #[.agg #[.int .u64 0, .slice none 0 0], .bool false]) ∧ w'.heap[sb]? = some (.cells #[.slice none 0 0, .iface 51 (.int .u8 k)] 31 (0, 0))) ∨
   ∃ (t : Int) (s n x : Nat) (ca ra : Addr), e = .returned (.tuple #[.agg #[.int .u64 t, .slice (some ca) (n - s) (n - s)], .bool true]) ∧
    w'.heap[sb]? = some (.cells #[.slice (some ra) (len - x) (cap - x), .nilIface] 31 (0, 0)) ∧ 1 ≤ t ∧ t < 18446744073709551616 ∧ 2 ≤ s ∧ s ≤ n ∧ n ≤ x ∧ x ≤ len ∧ Q t s n x ∧
    (s < n → ca = ⟨b, off + s, none⟩) ∧ (x < len → ra = ⟨b, off + x, none⟩))

set_option maxRecDepth 100000 in
set_option maxHeartbeats 2000000 in
theorem gen (sb b off len cap : Nat) (Qe : Prop) (Q : Int → Nat → Nat → Nat → Prop) (w : World) (hs : w.heap[sb]? = some (.cells #[.slice (some ⟨b, off, none⟩) len cap, .nilIface] 31 (0, 0))) (hl0 : 0 < len) (hlen : len ≤ 65536) (hm : cap ≤ 9223372036854775807) (hcap : len ≤ cap) (hb : b < sb)
    (hnext : ∀ wn, Below w.heap.size w wn → Calls Yba.prog 10 #[.slice (some ⟨b, off, none⟩) len cap] wn fun e w' => NPost len Qe Q e ∧ Below wn.heap.size wn w') :
    Calls Yba.prog 7 #[.pointer (some ⟨sb, 0, none⟩)] w fun e w' => Post sb b off len cap Qe Q w e w' := by
  have HNx : Hid (∀ wn, Below w.heap.size w wn → Calls Yba.prog 10 #[.slice (some ⟨b, off, none⟩) len cap] wn fun e w' => NPost len Qe Q e ∧ Below wn.heap.size wn w') := hnext
  clear hnext
  have hsz := lt_of_block hs
  have c0 : w.cell? ⟨sb, 0, none⟩ = some (.slice (some ⟨b, off, none⟩) len cap) := by rw [cell_of_row _ _ _ _ _ _ hs]; rfl
  have HS : Hid (w.heap[sb]? = some (.cells #[.slice (some ⟨b, off, none⟩) len cap, .nilIface] 31 (0, 0))) := hs
  clear hs
  have hbel0 : Below w.heap.size w (w.alloc Z35) := (Below.refl _ _).alloc (Nat.le_refl _) _
  have hn0 : ((len : Int) == 0) = false := beq_eq_false_iff_ne.2 (by omega)
  go_enter Yba.func7, Yba.ntmps7
  go_wp2_with fail
  refine (HNx.out _ hbel0).mono ?_
  rintro e w1 ⟨hP, hb1⟩
  have hbel1 : Below w.heap.size w w1 := hbel0.trans (hb1.mono (by simp))
  have hres : w1.heap[w.heap.size]? = some Z35 := (hb1.block _ (by simp)).trans (Go.heap_alloc_new w _)
  have hss : w1.heap[sb]? = some (.cells #[.slice (some ⟨b, off, none⟩) len cap, .nilIface] 31 (0, 0)) := (hbel1.block _ hsz).trans HS.out
  have hsz1 := lt_of_block hres
  have hsz2 : sb < w1.heap.size := by omega
  have r0 : w1.cell? ⟨w.heap.size, 0, none⟩ = some (.int .u64 0) := by rw [cell_of_row _ _ _ _ _ _ hres]; rfl
  have r1 : w1.cell? ⟨w.heap.size, 1, none⟩ = some (.slice none 0 0) := by rw [cell_of_row _ _ _ _ _ _ hres]; rfl
  have f0 : w1.frozen? ⟨w.heap.size, 0, none⟩ = false := frozen_of_row _ _ _ _ _ hres
  have f1 : w1.frozen? ⟨w.heap.size, 1, none⟩ = false := frozen_of_row _ _ _ _ _ hres
  have q0 : w1.cell? ⟨sb, 0, none⟩ = some (.slice (some ⟨b, off, none⟩) len cap) := by rw [cell_of_row _ _ _ _ _ _ hss]; rfl
  have q1 : w1.cell? ⟨sb, 1, none⟩ = some .nilIface := by rw [cell_of_row _ _ _ _ _ _ hss]; rfl
  have g0 : w1.frozen? ⟨sb, 0, none⟩ = false := frozen_of_row _ _ _ _ _ hss
  have g1 : w1.frozen? ⟨sb, 1, none⟩ = false := frozen_of_row _ _ _ _ _ hss
  have HR : Hid (w1.heap[w.heap.size]? = some Z35 ∧ w1.heap[sb]? = some (.cells #[.slice (some ⟨b, off, none⟩) len cap, .nilIface] 31 (0, 0))) := ⟨hres, hss⟩
  clear hres hss c0
  rcases hP with ⟨hQe, k, rfl⟩ | ⟨t, s, n, x, rfl, ⟨ht1, ht2, hs1, hs2, hs3, hs4⟩, hQ⟩
  · go_wp2
    have hne : sb ≠ w.heap.size := by omega
    refine bodyPost_ret (v := .tuple #[.agg #[.int .u64 0, .slice none 0 0], .bool false]) (by simp [results, Yba.results7, go_sem, hsz1, r0, r1]) rfl ⟨?_, .inl ⟨hQe, k, rfl, ?_⟩⟩
    · exact (((((hbel1.mono (Nat.le_of_lt hsz)).setCell (Nat.le_refl _) _).setCell (Nat.le_refl _) _).setCell (Nat.le_of_lt hsz) _).setCell (Nat.le_of_lt hsz) _).alloc (by simp; omega) _
    · rw [Below.heap_alloc _ _ _ (by simpa using hsz2), Below.heap_setCell _ _ _ _ (by simpa using hne), Below.heap_setCell _ _ _ _ (by simpa using hne)]
      exact Walk.block_set (Walk.block_set HR.out.2)
  · have HQ : Hid (Q t s n x) := hQ
    clear hQ
    have i1 : (0 : Int) ≤ (s : Int) := by omega
    have i2 : (s : Int) ≤ (n : Int) := by omega
    have i3 : (n : Int) ≤ (cap : Int) := by omega
    have i4 : (x : Int) ≤ (len : Int) := by omega
    have i5 : (0 : Int) ≤ (x : Int) := by omega
    have hne : sb ≠ w.heap.size := by omega
    have hsz3 : sb < w1.heap.size + 1 := by omega
    have hsz4 : w.heap.size < w1.heap.size + 1 := by omega
    have Hend : Hid (∀ (ca ra : Addr) (o1 o2 : Obj) (cv rv : Value), (s < n → ca = ⟨b, off + s, none⟩) → (x < len → ra = ⟨b, off + x, none⟩) → cv = .slice (some ca) (n - s) (n - s) → rv = .slice (some ra) (len - x) (cap - x) →
        Post sb b off len cap Qe Q w (.returned (.tuple #[.agg #[.int .u64 t, cv], .bool true])) (((((((w1.setCell ⟨sb, 0, none⟩ rv).setCell ⟨w.heap.size, 0, none⟩ (.int .u64 t)).setCell ⟨w.heap.size, 1, none⟩ cv).alloc o1).alloc o2).drew).drew)) := by
      rintro ca ra o1 o2 cv rv h1 h2 rfl rfl
      refine ⟨(((((((hbel1.mono (Nat.le_of_lt hsz)).setCell (Nat.le_refl _) _).setCell (Nat.le_of_lt hsz) _).setCell (Nat.le_of_lt hsz) _).alloc (by simp; omega) _).alloc (by simp; omega) _).drew).drew, .inr ⟨t, s, n, x, ca, ra, rfl, ?_, ht1, ht2, hs1, hs2, hs3, hs4, HQ.out, h1, h2⟩⟩
      show ((((w1.setCell ⟨sb, 0, none⟩ _).setCell ⟨w.heap.size, 0, none⟩ _).setCell ⟨w.heap.size, 1, none⟩ _).alloc o1 |>.alloc o2).heap[sb]? = _
      rw [Below.heap_alloc _ _ _ (by simp; omega), Below.heap_alloc _ _ _ (by simp; omega), Below.heap_setCell _ _ _ _ (by simpa using hne), Below.heap_setCell _ _ _ _ (by simpa using hne)]
      exact Walk.block_set HR.out.2
    by_cases hns : n = s
    · subst hns
      by_cases hcx : cap = x
      · subst hcx
        go_wp2
        go_region
        go_wp2
        go_region
        go_wp2
        refine bodyPost_ret (v := .tuple #[.agg #[.int .u64 t, .slice (some ⟨b, off, none⟩) 0 0], .bool true]) (by simp [results, Yba.results7, go_sem, hsz1, hsz4, r0, r1]) rfl ?_
        exact Hend.out ⟨b, off, none⟩ ⟨b, off, none⟩ _ _ _ _ (fun h => by first | rfl | omega) (fun h => by first | rfl | omega) (by rw [Nat.sub_self]) (by rw [show len - cap = 0 from by omega, Nat.sub_self])
      · go_wp2
        go_region
        go_wp2
        go_region
        go_wp2
        refine bodyPost_ret (v := .tuple #[.agg #[.int .u64 t, .slice (some ⟨b, off, none⟩) 0 0], .bool true]) (by simp [results, Yba.results7, go_sem, hsz1, hsz4, r0, r1]) rfl ?_
        exact Hend.out ⟨b, off, none⟩ ⟨b, off + x, none⟩ _ _ _ _ (fun h => by first | rfl | omega) (fun h => by first | rfl | omega) (by rw [Nat.sub_self]) rfl
    · by_cases hcx : cap = x
      · subst hcx
        go_wp2
        go_region
        go_wp2
        go_region
        go_wp2
        refine bodyPost_ret (v := .tuple #[.agg #[.int .u64 t, .slice (some ⟨b, off + s, none⟩) (n - s) (n - s)], .bool true]) (by simp [results, Yba.results7, go_sem, hsz1, hsz4, r0, r1]) rfl ?_
        exact Hend.out ⟨b, off + s, none⟩ ⟨b, off, none⟩ _ _ _ _ (fun h => by first | rfl | omega) (fun h => by first | rfl | omega) rfl (by rw [show len - cap = 0 from by omega, Nat.sub_self])
      · go_wp2
        go_region
        go_wp2
        go_region
        go_wp2
        refine bodyPost_ret (v := .tuple #[.agg #[.int .u64 t, .slice (some ⟨b, off + s, none⟩) (n - s) (n - s)], .bool true]) (by simp [results, Yba.results7, go_sem, hsz1, hsz4, r0, r1]) rfl ?_
        exact Hend.out ⟨b, off + s, none⟩ ⟨b, off + x, none⟩ _ _ _ _ (fun h => by first | rfl | omega) (fun h => by first | rfl | omega) rfl rfl

/-- Next over whatever octets. -/
theorem any (sb b off len cap : Nat) (z : Nat → Int) (w : World) (hs : w.heap[sb]? = some (.cells #[.slice (some ⟨b, off, none⟩) len cap, .nilIface] 31 (0, 0))) (hl0 : 0 < len) (hlen : len ≤ 65536) (hm : cap ≤ 9223372036854775807) (hcap : len ≤ cap) (hb : b < sb)
    (hc : ∀ j, j < len → w.cell? ⟨b, off + j, none⟩ = some (.int .u8 (z j))) (hz : ∀ j, 0 ≤ z j ∧ z j < 256) :
    Calls Yba.prog 7 #[.pointer (some ⟨sb, 0, none⟩)] w fun e w' => Post sb b off len cap True (fun _ _ _ _ => True) w e w' := by
  have hsz := lt_of_block hs
  refine gen sb b off len cap True (fun _ _ _ _ => True) w hs hl0 hlen hm hcap hb fun wn hbel => ?_
  refine (Next.any b off len cap z wn hl0 hlen hm hcap (by have := hbel.size; omega) (fun j hj => (hbel.cell (p := ⟨b, off + j, none⟩) (show b < _ by omega)).trans (hc j hj)) hz).mono ?_
  rintro e w' ⟨hP, hb'⟩
  refine ⟨?_, hb'⟩
  rcases hP with ⟨k, rfl⟩ | ⟨t, s, n, x, rfl, hh⟩
  · exact .inl ⟨trivial, k, rfl⟩
  · exact .inr ⟨t, s, n, x, rfl, hh, trivial⟩

/-- Next over a primitive element with a one-octet tag and a short length. -/
theorem short (sb b off len cap : Nat) (z : Nat → Int) (m : Nat) (w : World) (hs : w.heap[sb]? = some (.cells #[.slice (some ⟨b, off, none⟩) len cap, .nilIface] 31 (0, 0))) (hlen : len ≤ 65536) (hm : cap ≤ 9223372036854775807) (hcap : len ≤ cap) (hb : b < sb)
    (hc : ∀ j, j < len → w.cell? ⟨b, off + j, none⟩ = some (.int .u8 (z j))) (h0 : 1 ≤ z 0) (h0' : z 0 ≤ 30) (h1 : z 1 = m) (h1' : m ≤ 127) (hfit : 2 + m ≤ len) :
    Calls Yba.prog 7 #[.pointer (some ⟨sb, 0, none⟩)] w fun e w' => Post sb b off len cap False (fun t s n x => t = z 0 ∧ s = 2 ∧ n = 2 + m ∧ x = 2 + m) w e w' := by
  have hsz := lt_of_block hs
  refine gen sb b off len cap False _ w hs (by omega) hlen hm hcap hb fun wn hbel => ?_
  refine (Next.short b off len cap z m wn hlen hm hcap (by have := hbel.size; omega) (fun j hj => (hbel.cell (p := ⟨b, off + j, none⟩) (show b < _ by omega)).trans (hc j hj)) h0 h0' h1 h1' hfit).mono ?_
  rintro e w' ⟨rfl, hb'⟩
  exact ⟨.inr ⟨z 0, 2, 2 + m, 2 + m, by simp, ⟨h0, by omega, by omega, by omega, by omega, by omega⟩, rfl, rfl, rfl, rfl⟩, hb'⟩
end Go.Proofs.Ybulkabpe.Elem
