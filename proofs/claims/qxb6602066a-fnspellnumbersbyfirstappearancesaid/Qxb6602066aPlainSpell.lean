/-
  SEAT b6602066a: THE PLAIN LAWS OF KeyTexts.Spell: lists alone, no Go in sight.
-/
namespace Go.Proofs.Qxb6602066a

/-- The first place at which the principal p stands; the length where it stands nowhere. -/
def ix : List (Int × ByteArray) → Int → Nat
  | [], _ => 0
  | c :: r, p => if c.1 = p then 0 else ix r p + 1

theorem ix_le (l : List (Int × ByteArray)) (p : Int) : ix l p ≤ l.length := by
  induction l with
  | nil => exact Nat.le_refl _
  | cons c r ih => rw [ix, List.length_cons]; split <;> omega

theorem ix_in (l m : List (Int × ByteArray)) (p : Int) (h : ix l p < l.length) : ix (l ++ m) p = ix l p := by
  induction l with
  | nil => simp [ix] at h
  | cons c r ih =>
    rw [List.cons_append, ix, ix]
    by_cases e : c.1 = p
    · rw [if_pos e, if_pos e]
    · rw [ix, if_neg e, List.length_cons] at h
      rw [if_neg e, if_neg e, ih (by omega)]

theorem ix_out (l m : List (Int × ByteArray)) (p : Int) (h : ix l p = l.length) : ix (l ++ m) p = l.length + ix m p := by
  induction l with
  | nil => simp
  | cons c r ih =>
    rw [ix, List.length_cons] at h
    by_cases e : c.1 = p
    · rw [if_pos e] at h; omega
    · rw [if_neg e] at h
      rw [List.cons_append, ix, if_neg e, ih (by omega), List.length_cons]; omega

theorem ix_one (p : Int) (t : ByteArray) : ix [(p, t)] p = 0 := by simp [ix]
theorem ix_one_other (p q : Int) (t : ByteArray) (h : p ≠ q) : ix [(p, t)] q = 1 := by simp [ix, h]

/-- The principal and the text of call i. -/
def cl (cs : List (Int × ByteArray)) (i : Nat) : Int × ByteArray := cs.getD i (0, ByteArray.empty)

theorem ix_first (cs : List (Int × ByteArray)) (p : Int) (j : Nat) (hj : j < cs.length) (h1 : ∀ i, i < j → (cl cs i).1 ≠ p) (h2 : (cl cs j).1 = p) : ix cs p = j := by
  induction cs generalizing j with
  | nil => simp at hj
  | cons c r ih =>
    cases j with
    | zero =>
      have h3 : c.1 = p := h2
      rw [ix, if_pos h3]
    | succ j =>
      have h3 : c.1 ≠ p := h1 0 (by omega)
      rw [ix, if_neg h3, ih j (by simpa using hj) (fun i hi => h1 (i + 1) (by omega)) h2]

theorem ix_hit (cs : List (Int × ByteArray)) (p : Int) (h : ix cs p < cs.length) : (cl cs (ix cs p)).1 = p := by
  induction cs with
  | nil => simp [ix] at h
  | cons c r ih =>
    rw [ix] at h ⊢
    by_cases e : c.1 = p
    · rw [if_pos e]; exact e
    · rw [if_neg e] at h ⊢
      exact ih (by simpa using h)

theorem ix_at_le (cs : List (Int × ByteArray)) (i : Nat) (hi : i < cs.length) : ix cs (cl cs i).1 ≤ i := by
  induction cs generalizing i with
  | nil => simp at hi
  | cons c r ih =>
    cases i with
    | zero =>
      have e : cl (c :: r) 0 = c := rfl
      rw [e, ix, if_pos rfl]; exact Nat.le_refl _
    | succ i =>
      rw [ix]
      split
      · omega
      · have := ih i (by simpa using hi)
        have e : cl (c :: r) (i + 1) = cl r i := rfl
        rw [e]; omega

/-- What has been spelled by the first k calls, in order. -/
def sp (cs : List (Int × ByteArray)) : Nat → List (Int × ByteArray)
  | 0 => []
  | k + 1 => if ix (sp cs k) (cl cs k).1 < (sp cs k).length then sp cs k else sp cs k ++ [cl cs k]

/-- The number that call i gives back. -/
def nm (cs : List (Int × ByteArray)) (i : Nat) : Nat := ix (sp cs i) (cl cs i).1

theorem sp_old (cs : List (Int × ByteArray)) (k : Nat) (h : nm cs k < (sp cs k).length) : sp cs (k + 1) = sp cs k := by rw [sp]; exact if_pos h
theorem sp_new (cs : List (Int × ByteArray)) (k : Nat) (h : ¬ nm cs k < (sp cs k).length) : sp cs (k + 1) = sp cs k ++ [cl cs k] := by rw [sp]; exact if_neg h
theorem nm_new (cs : List (Int × ByteArray)) (k : Nat) (h : ¬ nm cs k < (sp cs k).length) : nm cs k = (sp cs k).length := by
  have := ix_le (sp cs k) (cl cs k).1
  unfold nm at h ⊢
  omega

theorem sp_le (cs : List (Int × ByteArray)) (k : Nat) : (sp cs k).length ≤ k := by
  induction k with
  | zero => simp [sp]
  | succ k ih =>
    by_cases h : nm cs k < (sp cs k).length
    · rw [sp_old cs k h]; omega
    · rw [sp_new cs k h, List.length_append]; simp; omega

theorem sp_ext (cs : List (Int × ByteArray)) (k d : Nat) : ∃ t, sp cs (k + d) = sp cs k ++ t := by
  induction d with
  | zero => exact ⟨[], by simp⟩
  | succ d ih =>
    obtain ⟨t, ht⟩ := ih
    by_cases h : nm cs (k + d) < (sp cs (k + d)).length
    · exact ⟨t, by rw [← Nat.add_assoc, sp_old cs (k + d) h, ht]⟩
    · exact ⟨t ++ [cl cs (k + d)], by rw [← Nat.add_assoc, sp_new cs (k + d) h, ht, List.append_assoc]⟩

/-- Right behind call i its principal stands at its number. -/
theorem nm_step (cs : List (Int × ByteArray)) (i : Nat) : ix (sp cs (i + 1)) (cl cs i).1 = nm cs i ∧ nm cs i < (sp cs (i + 1)).length := by
  by_cases h : nm cs i < (sp cs i).length
  · rw [sp_old cs i h]; exact ⟨rfl, h⟩
  · have e := nm_new cs i h
    rw [sp_new cs i h]
    refine ⟨?_, by rw [List.length_append, e]; simp⟩
    rw [ix_out _ _ _ (by exact e), e]
    have : ix [cl cs i] (cl cs i).1 = 0 := by rw [ix, if_pos rfl]
    omega

/-- .. and ever after. -/
theorem nm_stays (cs : List (Int × ByteArray)) (i k : Nat) (h : i < k) : ix (sp cs k) (cl cs i).1 = nm cs i ∧ nm cs i < (sp cs k).length := by
  obtain ⟨t, ht⟩ := sp_ext cs (i + 1) (k - (i + 1))
  rw [show i + 1 + (k - (i + 1)) = k by omega] at ht
  obtain ⟨h1, h2⟩ := nm_step cs i
  rw [ht, ix_in _ _ _ (by omega), List.length_append]
  exact ⟨h1, by omega⟩

theorem nm_same (cs : List (Int × ByteArray)) (j i : Nat) (h : j < i) (he : (cl cs j).1 = (cl cs i).1) : nm cs i = nm cs j ∧ nm cs i < (sp cs i).length := by
  obtain ⟨h1, h2⟩ := nm_stays cs j i h
  rw [he] at h1
  have e : nm cs i = nm cs j := h1
  exact ⟨e, by omega⟩

/-- A principal that no call before k has spelled is not there. -/
theorem sp_not (cs : List (Int × ByteArray)) (p : Int) (k : Nat) (h : ∀ j, j < k → (cl cs j).1 ≠ p) : ix (sp cs k) p = (sp cs k).length := by
  induction k with
  | zero => rfl
  | succ k ih =>
    have ih' := ih (fun j hj => h j (by omega))
    by_cases e : nm cs k < (sp cs k).length
    · rw [sp_old cs k e]; exact ih'
    · rw [sp_new cs k e, ix_out _ _ _ ih', List.length_append]
      have : ix [cl cs k] p = 1 := by rw [ix, if_neg (h k (by omega))]; rfl
      simp [this]

/-- Call i is the first of its principal just where 'ix' says i. -/
theorem first_iff (cs : List (Int × ByteArray)) (i : Nat) (hi : i < cs.length) : ix cs (cl cs i).1 = i ↔ ¬ nm cs i < (sp cs i).length := by
  constructor
  · intro h h2
    have h3 : ∀ j, j < i → (cl cs j).1 ≠ (cl cs i).1 := by
      intro j hj he
      have := ix_at_le cs j (by omega)
      rw [he, h] at this
      omega
    have := sp_not cs (cl cs i).1 i h3
    unfold nm at h2
    omega
  · intro h
    have h1 := ix_at_le cs i hi
    rcases Nat.lt_or_eq_of_le h1 with h2 | h2
    · have h3 := ix_hit cs (cl cs i).1 (by omega)
      exact absurd (nm_same cs _ i h2 h3).2 h
    · exact h2

/-- What the KeyTexts hold at the number of a first call. -/
theorem sp_at (cs : List (Int × ByteArray)) (i n : Nat) (hn : i < n) (h : ¬ nm cs i < (sp cs i).length) : cl (sp cs n) (nm cs i) = cl cs i := by
  obtain ⟨t, ht⟩ := sp_ext cs (i + 1) (n - (i + 1))
  rw [show i + 1 + (n - (i + 1)) = n by omega, sp_new cs i h] at ht
  rw [ht, nm_new cs i h]
  have e : (sp cs i ++ [cl cs i] ++ t).getD (sp cs i).length (0, ByteArray.empty) = cl cs i := by simp [List.getD]
  exact e

end Go.Proofs.Qxb6602066a
