/-
  SEAT b6602066a: THE PLAIN LAWS OF THE HEAP: lists and integers alone, no Go in sight.
-/
namespace Go.Proofs.Qxb6602066a

theorem gd_set (L : List Int) (i j : Nat) (x : Int) (hi : i < L.length) : (L.set i x).getD j 0 = if i = j then x else L.getD j 0 := by
  simp only [List.getD, List.getElem?_set]
  by_cases e : i = j
  · subst e; simp [hi]
  · simp [e]

theorem gd_get (L : List Int) (i : Nat) (h : i < L.length) : L.getD i 0 = L[i] := by simp [List.getD, h]

/-- The first m numbers form a heap, the least first. -/
def HeapN (L : List Int) (m : Nat) : Prop := ∀ j, 1 ≤ j → j < m → L.getD ((j - 1) / 2) 0 ≤ L.getD j 0

/-- .. but that the number at i may be greater than its children. -/
def HeapBut (L : List Int) (m i : Nat) : Prop :=
  (∀ j, 1 ≤ j → j < m → (j - 1) / 2 ≠ i → L.getD ((j - 1) / 2) 0 ≤ L.getD j 0) ∧
  (1 ≤ i → ∀ j, 1 ≤ j → j < m → (j - 1) / 2 = i → L.getD ((i - 1) / 2) 0 ≤ L.getD j 0)

/-- Two numbers change places. -/
def swp (L : List Int) (i c : Nat) : List Int := (L.set i (L.getD c 0)).set c (L.getD i 0)

theorem swp_length (L : List Int) (i c : Nat) : (swp L i c).length = L.length := by simp [swp]
theorem swp_at (L : List Int) (i c j : Nat) (hi : i < L.length) (hc : c < L.length) : (swp L i c).getD j 0 = if c = j then L.getD i 0 else if i = j then L.getD c 0 else L.getD j 0 := by
  unfold swp
  rw [gd_set _ _ _ _ (by simpa using hc), gd_set _ _ _ _ hi]
theorem swp_perm (L : List Int) (i c m : Nat) (hi : i < m) (hc : c < m) (hm : m ≤ L.length) : ((swp L i c).take m).Perm (L.take m) := by
  have h1 : i < (L.take m).length := by simp; omega
  have h2 : c < (L.take m).length := by simp; omega
  have h := List.set_set_perm h1 h2
  unfold swp
  rw [List.take_set, List.take_set, gd_get L c (by omega), gd_get L i (by omega)]
  simpa using h

theorem heap_swap (L : List Int) (m i c : Nat) (h : HeapBut L m i) (hm : m ≤ L.length) (hc1 : 1 ≤ c) (hcm : c < m) (hp : (c - 1) / 2 = i) (hle : L.getD c 0 ≤ L.getD i 0)
    (hmin : ∀ j, 1 ≤ j → j < m → (j - 1) / 2 = i → L.getD c 0 ≤ L.getD j 0) : HeapBut (swp L i c) m c := by
  have hic : i < c := by omega
  constructor
  · intro j h1 h2 h3
    rw [swp_at L i c _ (by omega) (by omega), swp_at L i c _ (by omega) (by omega)]
    rw [if_neg (fun e => h3 e.symm)]
    by_cases e1 : i = (j - 1) / 2
    · rw [if_pos e1]
      by_cases e2 : c = j
      · rw [if_pos e2]; exact hle
      · rw [if_neg e2, if_neg (by omega)]; exact hmin j h1 h2 e1.symm
    · rw [if_neg e1]
      rw [if_neg (by omega : ¬ c = j)]
      by_cases e3 : i = j
      · rw [if_pos e3]
        subst e3
        exact h.2 h1 c hc1 hcm hp
      · rw [if_neg e3]; exact h.1 j h1 h2 (fun e => e1 e.symm)
  · intro _ j h1 h2 h3
    rw [hp, swp_at L i c _ (by omega) (by omega), swp_at L i c _ (by omega) (by omega)]
    rw [if_neg (by omega), if_pos rfl, if_neg (by omega), if_neg (by omega)]
    have := h.1 j h1 h2 (by omega)
    rwa [h3] at this

theorem heap_done (L : List Int) (m i : Nat) (h : HeapBut L m i) (hk : ∀ j, 1 ≤ j → j < m → (j - 1) / 2 = i → L.getD i 0 ≤ L.getD j 0) : HeapN L m := by
  intro j h1 h2
  by_cases e : (j - 1) / 2 = i
  · have := hk j h1 h2 e
    rwa [e]
  · exact h.1 j h1 h2 e

theorem heap_start (L : List Int) (m : Nat) (hm : m < L.length) (h : HeapN L (m + 1)) : HeapBut (L.set 0 (L.getD m 0)) m 0 := by
  constructor
  · intro j h1 h2 h3
    rw [gd_set _ _ _ _ (by omega), gd_set _ _ _ _ (by omega), if_neg (by omega), if_neg (by omega)]
    exact h j h1 (by omega)
  · intro h0; omega

theorem pop_perm (L : List Int) (m : Nat) (hm : m < L.length) : (L.getD 0 0 :: (L.set 0 (L.getD m 0)).take m).Perm (L.take (m + 1)) := by
  rw [List.take_succ_eq_append_getElem hm, ← gd_get L m hm]
  cases m with
  | zero => simp
  | succ m =>
    cases L with
    | nil => simp at hm
    | cons x r =>
      simp only [List.set_cons_zero, List.take_succ_cons, List.getD_cons_zero, List.cons_append]
      refine List.Perm.cons x ?_
      exact (List.perm_append_singleton _ _).symm

/-- The first is the least. -/
theorem heap_min (L : List Int) (m : Nat) (h : HeapN L m) : ∀ b j, j < b → j < m → L.getD 0 0 ≤ L.getD j 0 := by
  intro b
  induction b with
  | zero => intro j hj; omega
  | succ b ih =>
    intro j hj hm
    by_cases e : j = 0
    · subst e; exact Int.le_refl _
    · have h1 := h j (by omega) hm
      have h2 := ih ((j - 1) / 2) (by omega) (by omega)
      omega

theorem heap_least (L : List Int) (m : Nat) (hm : m ≤ L.length) (h : HeapN L m) : ∀ x ∈ L.take m, L.getD 0 0 ≤ x := by
  intro x hx
  obtain ⟨j, hj, rfl⟩ := List.mem_iff_getElem.1 hx
  have hj2 : j < m := by simp at hj; omega
  have := heap_min L m h (j + 1) j (by omega) hj2
  rw [gd_get L j (by omega)] at this
  simpa using this

/-- In order, the least first. -/
def Asc (l : List Int) : Prop := l.Pairwise (· ≤ ·)

theorem asc_eq {l m : List Int} (h1 : Asc l) (h2 : Asc m) (hp : l.Perm m) : l = m :=
  List.Perm.eq_of_pairwise (le := (· ≤ ·)) (fun _ _ _ _ h h2 => Int.le_antisymm h h2) h1 h2 hp

theorem asc_cons {x : Int} {l : List Int} (h : Asc l) (hx : ∀ y ∈ l, x ≤ y) : Asc (x :: l) := List.pairwise_cons.2 ⟨hx, h⟩

theorem asc_snoc {x : Int} {l : List Int} (h : Asc l) (hx : ∀ y ∈ l, y ≤ x) : Asc (l ++ [x]) := by
  unfold Asc
  rw [List.pairwise_append]
  exact ⟨h, by simp, fun a ha b hb => by simp at hb; subst hb; exact hx a ha⟩

end Go.Proofs.Qxb6602066a
