/-
  SEAT b6601818a: THE PLAIN LAWS: lists and integers alone, no Go in sight.
-/
namespace Go.Proofs.Qxb6601818a

theorem gd_left (l m : List Int) (d : Int) (j : Nat) (h : j < l.length) : (l ++ m).getD j d = l.getD j d := by
  simp [List.getD, List.getElem?_append, h]
theorem gd_right (l m : List Int) (d : Int) (j : Nat) (h : l.length ≤ j) : (l ++ m).getD j d = m.getD (j - l.length) d := by
  simp [List.getD, List.getElem?_append, show ¬ j < l.length by omega]

/-- The starts of the lines of the first k bytes. -/
def LS (zs : List Int) : Nat → List Int
  | 0 => [0]
  | k + 1 => if zs.getD k 0 = 10 then LS zs k ++ [(k : Int) + 1] else LS zs k

theorem LS_hit (zs : List Int) (k : Nat) (h : zs.getD k 0 = 10) : LS zs (k + 1) = LS zs k ++ [(k : Int) + 1] := by rw [LS, if_pos h]
theorem LS_miss (zs : List Int) (k : Nat) (h : ¬ zs.getD k 0 = 10) : LS zs (k + 1) = LS zs k := by rw [LS, if_neg h]
theorem LS_le (zs : List Int) (k : Nat) : 1 ≤ (LS zs k).length ∧ (LS zs k).length ≤ k + 1 := by
  induction k with
  | zero => simp [LS]
  | succ k ih =>
    rw [LS]
    split
    · rw [List.length_append]; simp; omega
    · omega

/-- Every start lies in [0, k]. -/
theorem LS_bd (zs : List Int) (k : Nat) : ∀ j, j < (LS zs k).length → 0 ≤ (LS zs k).getD j 0 ∧ (LS zs k).getD j 0 ≤ k := by
  induction k with
  | zero => intro j hj; simp [LS] at hj ⊢; subst hj; simp
  | succ k ih =>
    intro j hj
    by_cases h : zs.getD k 0 = 10
    · rw [LS_hit zs k h] at hj ⊢
      by_cases e : j < (LS zs k).length
      · have := ih j e
        rw [gd_left _ _ _ _ e]; omega
      · simp at hj
        have e2 : j = (LS zs k).length := by omega
        rw [gd_right _ _ _ _ (by omega)]
        subst e2
        simp; omega
    · rw [LS_miss zs k h] at hj ⊢
      have := ih j hj
      omega

theorem LS_first (zs : List Int) (k : Nat) : (LS zs k).getD 0 0 = 0 := by
  induction k with
  | zero => rfl
  | succ k ih =>
    have := LS_le zs k
    by_cases h : zs.getD k 0 = 10
    · rw [LS_hit zs k h, gd_left _ _ _ _ (by omega)]; exact ih
    · rw [LS_miss zs k h]; exact ih

/-- The starts rise strictly. -/
theorem LS_rise (zs : List Int) (k : Nat) : ∀ j, j + 1 < (LS zs k).length → (LS zs k).getD j 0 < (LS zs k).getD (j + 1) 0 := by
  induction k with
  | zero => intro j hj; simp [LS] at hj
  | succ k ih =>
    intro j hj
    by_cases h : zs.getD k 0 = 10
    · rw [LS_hit zs k h] at hj ⊢
      simp at hj
      by_cases e : j + 1 < (LS zs k).length
      · rw [gd_left _ _ _ _ e, gd_left _ _ _ _ (by omega)]; exact ih j e
      · have e2 : j + 1 = (LS zs k).length := by omega
        have := LS_bd zs k j (by omega)
        rw [gd_right _ _ _ (j + 1) (by omega), gd_left _ _ _ _ (by omega), e2, Nat.sub_self, List.getD_cons_zero]
        omega
    · rw [LS_miss zs k h] at hj ⊢
      exact ih j hj

/-- Every start but the first lies right behind a newline. -/
theorem LS_nl (zs : List Int) (k : Nat) : ∀ j, j + 1 < (LS zs k).length → zs.getD ((LS zs k).getD (j + 1) 0 - 1).toNat 0 = 10 := by
  induction k with
  | zero => intro j hj; simp [LS] at hj
  | succ k ih =>
    intro j hj
    by_cases h : zs.getD k 0 = 10
    · rw [LS_hit zs k h] at hj ⊢
      simp at hj
      by_cases e : j + 1 < (LS zs k).length
      · rw [gd_left _ _ _ _ e]; exact ih j e
      · have e2 : j + 1 = (LS zs k).length := by omega
        rw [gd_right _ _ _ (j + 1) (by omega), e2]
        simp only [Nat.sub_self, List.getD_cons_zero]
        rw [show ((k : Int) + 1 - 1).toNat = k by omega]; exact h
    · rw [LS_miss zs k h] at hj ⊢
      exact ih j hj

/-- Behind every newline lies a start. -/
theorem LS_all (zs : List Int) (k : Nat) : ∀ p, p < k → zs.getD p 0 = 10 → ∃ j, j + 1 < (LS zs k).length ∧ (LS zs k).getD (j + 1) 0 = (p : Int) + 1 := by
  induction k with
  | zero => intro p hp; omega
  | succ k ih =>
    intro p hp hz
    by_cases h : zs.getD k 0 = 10
    · rw [LS_hit zs k h]
      by_cases e : p < k
      · obtain ⟨j, hj, he⟩ := ih p e hz
        exact ⟨j, by simp; omega, by rw [gd_left _ _ _ _ hj]; exact he⟩
      · have e2 : p = k := by omega
        subst e2
        have := LS_le zs p
        refine ⟨(LS zs p).length - 1, by simp; omega, ?_⟩
        rw [gd_right _ _ _ _ (by omega), show (LS zs p).length - 1 + 1 - (LS zs p).length = 0 by omega]
        rfl
    · rw [LS_miss zs k h]
      by_cases e : p < k
      · exact ih p e hz
      · have e2 : p = k := by omega
        subst e2
        exact absurd hz h

/-- The starts rise: over any distance. -/
theorem LS_mono (zs : List Int) (k : Nat) (i : Nat) : ∀ d, i + d + 1 < (LS zs k).length → (LS zs k).getD i 0 < (LS zs k).getD (i + d + 1) 0 := by
  intro d
  induction d with
  | zero => exact LS_rise zs k i
  | succ d ih =>
    intro h
    have h1 := ih (by omega)
    have h2 := LS_rise zs k (i + d + 1) (by omega)
    rw [show i + (d + 1) + 1 = i + d + 1 + 1 by omega]
    omega

/-- Between a start and the next (but for the byte ahead of it), and behind the last start, there is no newline. -/
theorem LS_gap (zs : List Int) (k : Nat) (j p : Nat) (hj : j < (LS zs k).length) (hp : p < k) (h1 : (LS zs k).getD j 0 ≤ p)
    (h2 : j + 1 < (LS zs k).length → (p : Int) + 1 < (LS zs k).getD (j + 1) 0) : ¬ zs.getD p 0 = 10 := by
  intro hz
  obtain ⟨i, hi, he⟩ := LS_all zs k p hp hz
  by_cases a : i + 1 ≤ j
  · by_cases b : i + 1 = j
    · rw [b] at he; omega
    · have := LS_mono zs k (i + 1) (j - i - 2) (by omega)
      rw [show i + 1 + (j - i - 2) + 1 = j by omega] at this
      omega
  · have h3 := h2 (by omega)
    by_cases b : i = j
    · rw [b] at he; omega
    · have := LS_mono zs k (j + 1) (i - j - 1) (by omega)
      rw [show j + 1 + (i - j - 1) + 1 = i + 1 by omega] at this
      omega

/-- The starts of the first bytes are the first of the starts; those behind them lie past its end. -/
theorem LS_pre (zs : List Int) (p d : Nat) : ∃ t, LS zs (p + d) = LS zs p ++ t ∧ ∀ x ∈ t, (p : Int) < x := by
  induction d with
  | zero => exact ⟨[], by simp, by simp⟩
  | succ d ih =>
    obtain ⟨t, h1, h2⟩ := ih
    by_cases h : zs.getD (p + d) 0 = 10
    · refine ⟨t ++ [((p + d : Nat) : Int) + 1], ?_, ?_⟩
      · rw [← Nat.add_assoc, LS_hit zs (p + d) h, h1, List.append_assoc]
      · intro x hx
        rcases List.mem_append.1 hx with hx | hx
        · exact h2 x hx
        · simp at hx; omega
    · exact ⟨t, by rw [← Nat.add_assoc, LS_miss zs (p + d) h, h1], h2⟩

theorem LS_pre_le (zs : List Int) (p n : Nat) (h : p ≤ n) : (LS zs p).length ≤ (LS zs n).length := by
  obtain ⟨t, h1, _⟩ := LS_pre zs p (n - p)
  rw [show p + (n - p) = n by omega] at h1
  rw [h1, List.length_append]; omega

theorem LS_small (zs : List Int) (p n j : Nat) (h : p ≤ n) (hj : j < (LS zs p).length) : (LS zs n).getD j 0 ≤ p := by
  obtain ⟨t, h1, _⟩ := LS_pre zs p (n - p)
  rw [show p + (n - p) = n by omega] at h1
  rw [h1, gd_left _ _ _ _ hj]
  exact (LS_bd zs p j hj).2

theorem LS_large (zs : List Int) (p n j : Nat) (h : p ≤ n) (hj : (LS zs p).length ≤ j) (hl : j < (LS zs n).length) : (p : Int) < (LS zs n).getD j 0 := by
  obtain ⟨t, h1, h2⟩ := LS_pre zs p (n - p)
  rw [show p + (n - p) = n by omega] at h1
  rw [h1] at hl ⊢
  rw [List.length_append] at hl
  rw [gd_right _ _ _ _ hj]
  have hlt : j - (LS zs p).length < t.length := by omega
  simp only [List.getD, List.getElem?_eq_getElem hlt, Option.getD_some]
  exact h2 _ (List.getElem_mem hlt)

theorem LS_end (zs : List Int) : LS zs (zs.length + 1) = LS zs zs.length := LS_miss zs _ (by simp)

end Go.Proofs.Qxb6601818a
