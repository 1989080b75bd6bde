/-
  The plain mathematics of the table: linear probing over S slots of two words. No Go in sight.
-/
import Derived.Test.YbulkabskSlot
namespace Go.Proofs.Ybulkabsk.Plain
open Go.Proofs.Ybulkabsk.Slot (upd)

/-- How many slots are taken. -/
def occ (W : Nat → Int) (S : Nat) : Nat := (List.range S).countP fun s => W (2 * s) != 0

/-- The table W of S slots holds the keys ks, each with its number in fs, and each can be reached from where its search begins. -/
structure Inv (S : Nat) (start : Int → Nat) (W : Nat → Int) (ks : List Int) (fs : List Nat) : Prop where
  len : fs.length = ks.length
  count : occ W S = ks.length
  back : ∀ s, s < S → W (2 * s) ≠ 0 → ∃ m, m < ks.length ∧ ks.getD m 0 = W (2 * s) ∧ ((fs.getD m 0 : Nat) : Int) = W (2 * s + 1)
  reach : ∀ m, m < ks.length → ∃ d, d < S ∧ W (2 * ((start (ks.getD m 0) + d) % S)) = ks.getD m 0 ∧ ∀ i, i < d → W (2 * ((start (ks.getD m 0) + i) % S)) ≠ 0
  nodup : ∀ i j, i < ks.length → j < ks.length → ks.getD i 0 = ks.getD j 0 → i = j
  pos : ∀ m, m < ks.length → ks.getD m 0 ≠ 0

theorem countP_zero (l : List Nat) (p : Nat → Bool) (h : ∀ x ∈ l, p x = false) : l.countP p = 0 := by
  rw [List.countP_eq_zero]
  intro x hx
  rw [h x hx]; simp
theorem empty (S : Nat) (start : Int → Nat) : Inv S start (fun _ => 0) [] [] :=
  ⟨rfl, countP_zero _ _ (fun _ _ => rfl), fun _ _ h => absurd rfl h, fun m h => by simp at h, fun i j h => by simp at h, fun m h => by simp at h⟩

theorem free0 {W : Nat → Int} {S : Nat} (h : occ W S < S) : ∃ s, s < S ∧ W (2 * s) = 0 := by
  apply Classical.byContradiction
  intro hn
  have hall : ∀ s, s < S → W (2 * s) ≠ 0 := fun s hs h0 => hn ⟨s, hs, h0⟩
  have : occ W S = S := by
    unfold occ
    have : (List.range S).countP (fun s => W (2 * s) != 0) = (List.range S).length := by
      rw [List.countP_eq_length]
      intro s hs
      have := hall s (by simpa using hs)
      simpa using this
    rw [this]; simp
  omega

/-- From wherever a search begins, an empty slot lies ahead. -/
theorem free {S : Nat} {start : Int → Nat} {W : Nat → Int} {ks : List Int} {fs : List Nat} (h : Inv S start W ks fs) (hl : ks.length < S) (st : Nat) (hst : st < S) : ∃ d, d < S ∧ W (2 * ((st + d) % S)) = 0 := by
  obtain ⟨s, hs, h0⟩ := free0 (W := W) (S := S) (by rw [h.count]; exact hl)
  refine ⟨(s + S - st) % S, Nat.mod_lt _ (by omega), ?_⟩
  rw [Nat.add_mod_mod, show st + (s + S - st) = s + S from by omega, Nat.add_mod_right, Nat.mod_eq_of_lt hs]
  exact h0

/-- The search ends at the key: it is one of the keys. -/
theorem hit {S : Nat} {start : Int → Nat} {W : Nat → Int} {ks : List Int} {fs : List Nat} (h : Inv S start W ks fs) {s : Nat} {tag : Int} (hs : s < S) (ht : tag ≠ 0) (he : W (2 * s) = tag) :
    ∃ m, m < ks.length ∧ ks.getD m 0 = tag ∧ ((fs.getD m 0 : Nat) : Int) = W (2 * s + 1) := by
  obtain ⟨m, h1, h2, h3⟩ := h.back s hs (by rw [he]; exact ht)
  exact ⟨m, h1, h2.trans he, h3⟩
/-- The search ends at an empty slot: it is none of them. -/
theorem miss {S : Nat} {start : Int → Nat} {W : Nat → Int} {ks : List Int} {fs : List Nat} (h : Inv S start W ks fs) {j : Nat} {tag : Int}
    (hp : ∀ d, d < j → W (2 * ((start tag + d) % S)) ≠ 0 ∧ W (2 * ((start tag + d) % S)) ≠ tag) (h0 : W (2 * ((start tag + j) % S)) = 0) (ht : tag ≠ 0) : ∀ m, m < ks.length → ks.getD m 0 ≠ tag := by
  intro m hm he
  obtain ⟨d, _, h1, h2⟩ := h.reach m hm
  rw [he] at h1 h2
  rcases Nat.lt_trichotomy d j with hd | hd | hd
  · exact (hp d hd).2 h1
  · subst hd; rw [h0] at h1; exact ht h1.symm
  · exact h2 j hd h0

theorem countP_upd (W : Nat → Int) (s : Nat) (t v : Int) (ht : t ≠ 0) (h0 : W (2 * s) = 0) : ∀ S, (List.range S).countP (fun x => upd W s t v (2 * x) != 0) = (List.range S).countP (fun x => W (2 * x) != 0) + if s < S then 1 else 0
  | 0 => by simp
  | S + 1 => by
    rw [List.range_succ, List.countP_append, List.countP_append, countP_upd W s t v ht h0 S]
    have e : upd W s t v (2 * S) = if S = s then t else W (2 * S) := by
      unfold upd
      by_cases h : S = s
      · subst h; simp
      · rw [if_neg (by omega), if_neg (by omega), if_neg h]
    simp only [List.countP_singleton, e]
    by_cases h : S = s
    · subst h
      simp [ht, h0]
    · rw [if_neg h]
      have e2 : (if s < S + 1 then 1 else 0 : Nat) = if s < S then 1 else 0 := by
        by_cases h1 : s < S
        · rw [if_pos h1, if_pos (show s < S + 1 by omega)]
        · rw [if_neg h1, if_neg (show ¬ s < S + 1 by omega)]
      rw [e2]; omega

theorem getD_snoc_lt {α : Type} (l : List α) (x d : α) (m : Nat) (h : m < l.length) : (l ++ [x]).getD m d = l.getD m d := by
  simp [List.getD_eq_getElem?_getD, List.getElem?_append_left h]
theorem getD_snoc_eq {α : Type} (l : List α) (x d : α) : (l ++ [x]).getD l.length d = x := by
  simp [List.getD_eq_getElem?_getD]

/-- A key is laid into the empty slot at which its search ended. -/
theorem insert {S : Nat} {start : Int → Nat} {W : Nat → Int} {ks : List Int} {fs : List Nat} (h : Inv S start W ks fs) {j : Nat} {tag : Int} (i : Nat) (hj : j < S)
    (hp : ∀ d, d < j → W (2 * ((start tag + d) % S)) ≠ 0 ∧ W (2 * ((start tag + d) % S)) ≠ tag) (h0 : W (2 * ((start tag + j) % S)) = 0) (ht : tag ≠ 0) :
    Inv S start (upd W ((start tag + j) % S) tag i) (ks ++ [tag]) (fs ++ [i]) := by
  have hm := miss h hp h0 ht
  have hsS : (start tag + j) % S < S := Nat.mod_lt _ (by omega)
  generalize hs : (start tag + j) % S = s at *
  have e0 : ∀ x, upd W s tag i (2 * x) = if x = s then tag else W (2 * x) := by
    intro x
    unfold upd
    by_cases hx : x = s
    · subst hx; simp
    · rw [if_neg (by omega), if_neg (by omega), if_neg hx]
  have e1 : ∀ x, upd W s tag i (2 * x + 1) = if x = s then (i : Int) else W (2 * x + 1) := by
    intro x
    unfold upd
    rw [if_neg (by omega)]
    by_cases hx : x = s
    · subst hx; simp
    · rw [if_neg (by omega), if_neg hx]
  have en : ∀ x, W (2 * x) ≠ 0 → upd W s tag i (2 * x) ≠ 0 := by
    intro x hx
    rw [e0]
    split
    · exact ht
    · exact hx
  refine ⟨by simp [h.len], ?_, ?_, ?_, ?_, ?_⟩
  · unfold occ
    rw [countP_upd W s tag i ht h0 S, if_pos hsS]
    have := h.count
    unfold occ at this
    rw [this]; simp
  · intro x hx hne
    by_cases hxs : x = s
    · subst hxs
      refine ⟨ks.length, by simp, ?_, ?_⟩
      · rw [getD_snoc_eq, e0, if_pos rfl]
      · rw [← h.len, getD_snoc_eq, e1, if_pos rfl]
    · rw [e0, if_neg hxs] at hne
      obtain ⟨m, h1, h2, h3⟩ := h.back x hx hne
      refine ⟨m, by simp; omega, ?_, ?_⟩
      · rw [getD_snoc_lt _ _ _ _ h1, e0, if_neg hxs]; exact h2
      · rw [getD_snoc_lt _ _ _ _ (by rw [h.len]; exact h1), e1, if_neg hxs]; exact h3
  · intro m hmm
    by_cases hme : m < ks.length
    · rw [getD_snoc_lt _ _ _ _ hme]
      obtain ⟨d, h1, h2, h3⟩ := h.reach m hme
      refine ⟨d, h1, ?_, fun q hq => en _ (h3 q hq)⟩
      rw [e0]
      by_cases hx : (start (ks.getD m 0) + d) % S = s
      · exfalso
        rw [hx, h0] at h2
        exact h.pos m hme h2.symm
      · rw [if_neg hx]; exact h2
    · have hml : m = ks.length := by simp at hmm; omega
      subst hml
      rw [getD_snoc_eq]
      refine ⟨j, hj, ?_, fun q hq => en _ (hp q hq).1⟩
      rw [hs, e0, if_pos rfl]
  · intro a b ha hb hab
    simp only [List.length_append, List.length_singleton] at ha hb
    by_cases h1 : a < ks.length
    · by_cases h2 : b < ks.length
      · rw [getD_snoc_lt _ _ _ _ h1, getD_snoc_lt _ _ _ _ h2] at hab
        exact h.nodup a b h1 h2 hab
      · have : b = ks.length := by omega
        subst this
        rw [getD_snoc_lt _ _ _ _ h1, getD_snoc_eq] at hab
        exact absurd hab (hm a h1)
    · have : a = ks.length := by omega
      subst this
      by_cases h2 : b < ks.length
      · rw [getD_snoc_lt _ _ _ _ h2, getD_snoc_eq] at hab
        exact absurd hab.symm (hm b h2)
      · omega
  · intro m hmm
    by_cases hme : m < ks.length
    · rw [getD_snoc_lt _ _ _ _ hme]; exact h.pos m hme
    · have hml : m = ks.length := by simp at hmm; omega
      subst hml
      rw [getD_snoc_eq]; exact ht
end Go.Proofs.Ybulkabsk.Plain
