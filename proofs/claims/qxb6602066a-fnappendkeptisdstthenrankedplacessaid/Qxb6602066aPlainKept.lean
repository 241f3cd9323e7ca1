/-
  SEAT b6602066a: THE PLAIN LAWS OF appendKept: lists and integers alone, no Go in sight.
-/
namespace Go.Proofs.Qxb6602066a

theorem gd_left {α : Type} (l m : List α) (d : α) (j : Nat) (h : j < l.length) : (l ++ m).getD j d = l.getD j d := by
  simp [List.getD, List.getElem?_append, h]
theorem gd_right {α : Type} (l m : List α) (d : α) (j : Nat) (h : l.length ≤ j) : (l ++ m).getD j d = m.getD (j - l.length) d := by
  simp [List.getD, List.getElem?_append, show ¬ j < l.length by omega]

/-- The places below k that are marked. -/
def idx (bs : List Bool) : Nat → List Int
  | 0 => []
  | k + 1 => if bs.getD k false = true then idx bs k ++ [(k : Int)] else idx bs k

theorem idx_hit (bs : List Bool) (k : Nat) (h : bs.getD k false = true) : idx bs (k + 1) = idx bs k ++ [(k : Int)] := by rw [idx, if_pos h]
theorem idx_miss (bs : List Bool) (k : Nat) (h : bs.getD k false = false) : idx bs (k + 1) = idx bs k := by rw [idx, if_neg (by rw [h]; simp)]
theorem idx_le (bs : List Bool) (k : Nat) : (idx bs k).length ≤ k := by
  induction k with
  | zero => simp [idx]
  | succ k ih =>
    rw [idx]
    split
    · rw [List.length_append]; simp; omega
    · omega
theorem idx_mono (bs : List Bool) (k d : Nat) : (idx bs k).length ≤ (idx bs (k + d)).length := by
  induction d with
  | zero => exact Nat.le_refl _
  | succ d ih =>
    rw [← Nat.add_assoc, idx]
    split
    · rw [List.length_append]; omega
    · exact ih

/-- The j-th marked place is marked, and j marked places lie before it. -/
theorem idx_at (bs : List Bool) (k : Nat) : ∀ j, j < (idx bs k).length → ∃ x : Nat, (idx bs k).getD j 0 = (x : Int) ∧ x < k ∧ bs.getD x false = true ∧ (idx bs x).length = j := by
  induction k with
  | zero => intro j hj; simp [idx] at hj
  | succ k ih =>
    intro j hj
    by_cases h : bs.getD k false = true
    · rw [idx_hit bs k h] at hj ⊢
      by_cases e : j < (idx bs k).length
      · obtain ⟨x, h1, h2, h3, h4⟩ := ih j e
        exact ⟨x, by rw [gd_left _ _ _ _ e]; exact h1, by omega, h3, h4⟩
      · rw [List.length_append] at hj
        simp at hj
        have e2 : j = (idx bs k).length := by omega
        refine ⟨k, ?_, by omega, h, e2.symm⟩
        rw [gd_right _ _ _ _ (by omega), e2, Nat.sub_self]
        rfl
    · rw [idx, if_neg h] at hj ⊢
      obtain ⟨x, h1, h2, h3, h4⟩ := ih j hj
      exact ⟨x, h1, by omega, h3, h4⟩

/-- The ranks, as far as they are filled in: the first k + 1 of n + 1. -/
def rnk (bs : List Bool) (n k : Nat) : List Int := (List.range (n + 1)).map fun j => if j ≤ k then ((idx bs j).length : Int) else 0
theorem rnk_length (bs : List Bool) (n k : Nat) : (rnk bs n k).length = n + 1 := by simp [rnk]
theorem rnk_at (bs : List Bool) (n k j : Nat) (hj : j ≤ n) (hk : j ≤ k) : (rnk bs n k).getD j 0 = ((idx bs j).length : Int) := by
  simp [rnk, List.getD, show j < n + 1 by omega, hk]
theorem rnk_zero (bs : List Bool) (n : Nat) : rnk bs n 0 = List.replicate (n + 1) 0 := by
  apply List.ext_getElem
  · simp [rnk]
  · intro i h1 h2
    simp only [rnk, List.getElem_map, List.getElem_range, List.getElem_replicate]
    by_cases e : i = 0
    · subst e; simp [idx]
    · rw [if_neg (by omega)]
theorem rnk_set (bs : List Bool) (n k : Nat) : (rnk bs n k).set (k + 1) ((idx bs (k + 1)).length : Int) = rnk bs n (k + 1) := by
  apply List.ext_getElem
  · simp [rnk]
  · intro i h1 h2
    rw [List.getElem_set]
    simp only [rnk, List.getElem_map, List.getElem_range]
    by_cases e : k + 1 = i
    · subst e; simp
    · rw [if_neg e]
      by_cases h : i ≤ k
      · rw [if_pos h, if_pos (by omega)]
      · rw [if_neg h, if_neg (by omega)]
/-- One store twice over: the first value is lost. -/
theorem rnk_set2 (bs : List Bool) (n k : Nat) (x : Int) : ((rnk bs n k).set (k + 1) x).set (k + 1) ((idx bs (k + 1)).length : Int) = rnk bs n (k + 1) := by
  rw [List.set_set]; exact rnk_set bs n k

end Go.Proofs.Qxb6602066a
