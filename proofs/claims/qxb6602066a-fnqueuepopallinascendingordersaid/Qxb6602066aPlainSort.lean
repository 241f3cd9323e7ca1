/-
  SEAT b6602066a: THE PLAIN LAWS OF THE BOTTOM-UP MERGE SORT: lists and integers alone, no Go in sight.
-/
import Derived.Test.Qxb6602066aPlainHeap
namespace Go.Proofs.Qxb6602066a

/-- Each run of W numbers is in order, as far as it lies below m. -/
def RunsTo (l : List Int) (W m : Nat) : Prop := ∀ c p q, c * W ≤ p → p < q → q < c * W + W → q < m → l.getD p 0 ≤ l.getD q 0

/-- The numbers of S at lo .. hi are in order. -/
def Ord (S : List Int) (lo hi : Nat) : Prop := ∀ p q, lo ≤ p → p < q → q < hi → S.getD p 0 ≤ S.getD q 0

/-- A MERGE HALF DONE: of S's runs lo .. mid and mid .. hi the numbers up to i and up to j have gone over to T, up to k. -/
structure Mrg (S T : List Int) (lo mid hi i j k : Nat) : Prop where
  h1 : lo ≤ i
  h2 : i ≤ mid
  h3 : mid ≤ j
  h4 : j ≤ hi
  h5 : i + j = k + mid
  perm : (T.take k).Perm (S.take i ++ (S.drop mid).take (j - mid))
  ord : Ord T lo k
  left : ∀ p q, lo ≤ p → p < k → i ≤ q → q < mid → T.getD p 0 ≤ S.getD q 0
  right : ∀ p q, lo ≤ p → p < k → j ≤ q → q < hi → T.getD p 0 ≤ S.getD q 0

theorem take_set_succ (T : List Int) (k : Nat) (x : Int) (h : k < T.length) : (T.set k x).take (k + 1) = T.take k ++ [x] := by
  rw [List.take_succ_eq_append_getElem (by simpa using h)]
  have e : (T.take k).set k x = T.take k := List.set_eq_of_length_le (by simp; omega)
  simp [List.take_set, e]

theorem take_at (S : List Int) (i : Nat) (h : i < S.length) : S.take (i + 1) = S.take i ++ [S.getD i 0] := by
  rw [List.take_succ_eq_append_getElem h, gd_get S i h]

theorem drop_take_at (S : List Int) (mid j : Nat) (hm : mid ≤ j) (h : j < S.length) : (S.drop mid).take (j + 1 - mid) = (S.drop mid).take (j - mid) ++ [S.getD j 0] := by
  rw [show j + 1 - mid = j - mid + 1 by omega, List.take_succ_eq_append_getElem (by simp; omega), gd_get S j h]
  simp [show mid + (j - mid) = j by omega]

theorem mrg_start (S T : List Int) (lo mid hi : Nat) (h1 : lo ≤ mid) (h2 : mid ≤ hi) (hp : (T.take lo).Perm (S.take lo)) : Mrg S T lo mid hi lo mid lo where
  h1 := Nat.le_refl _
  h2 := h1
  h3 := Nat.le_refl _
  h4 := h2
  h5 := rfl
  perm := by simpa using hp
  ord := fun p q a b c => by omega
  left := fun p q a b => by omega
  right := fun p q a b => by omega

theorem mrg_left (S T : List Int) (lo mid hi i j k : Nat) (h : Mrg S T lo mid hi i j k) (hl : hi ≤ S.length) (hT : T.length = S.length) (hmh : mid ≤ hi) (o1 : Ord S lo mid) (o2 : Ord S mid hi)
    (hi1 : i < mid) (hc : hi ≤ j ∨ S.getD i 0 ≤ S.getD j 0) : Mrg S (T.set k (S.getD i 0)) lo mid hi (i + 1) j (k + 1) := by
  obtain ⟨a1, a2, a3, a4, a5, pm, od, lf, rt⟩ := h
  have hk : k < T.length := by omega
  refine ⟨by omega, by omega, a3, a4, by omega, ?_, ?_, ?_, ?_⟩
  · rw [take_set_succ T k _ hk, take_at S i (by omega), List.append_assoc]
    refine (pm.append_right _).trans ?_
    rw [List.append_assoc]
    exact List.Perm.append_left _ List.perm_append_comm
  · intro p q h1 h2 h3
    rw [gd_set _ _ _ _ hk, gd_set _ _ _ _ hk, if_neg (by omega)]
    by_cases e : k = q
    · rw [if_pos e]; exact lf p i h1 (by omega) (Nat.le_refl _) hi1
    · rw [if_neg e]; exact od p q h1 h2 (by omega)
  · intro p q h1 h2 h3 h4
    rw [gd_set _ _ _ _ hk]
    by_cases e : k = p
    · rw [if_pos e]; exact o1 i q a1 (by omega) h4
    · rw [if_neg e]; exact lf p q h1 (by omega) (by omega) h4
  · intro p q h1 h2 h3 h4
    rw [gd_set _ _ _ _ hk]
    by_cases e : k = p
    · rw [if_pos e]
      rcases hc with hc | hc
      · omega
      · by_cases e2 : j = q
        · rw [← e2]; exact hc
        · have := o2 j q a3 (by omega) h4
          omega
    · rw [if_neg e]; exact rt p q h1 (by omega) h3 h4

theorem mrg_right (S T : List Int) (lo mid hi i j k : Nat) (h : Mrg S T lo mid hi i j k) (hl : hi ≤ S.length) (hT : T.length = S.length) (o1 : Ord S lo mid) (o2 : Ord S mid hi)
    (hj1 : j < hi) (hc : i < mid → S.getD j 0 ≤ S.getD i 0) : Mrg S (T.set k (S.getD j 0)) lo mid hi i (j + 1) (k + 1) := by
  obtain ⟨a1, a2, a3, a4, a5, pm, od, lf, rt⟩ := h
  have hk : k < T.length := by omega
  refine ⟨a1, a2, by omega, by omega, by omega, ?_, ?_, ?_, ?_⟩
  · rw [take_set_succ T k _ hk, drop_take_at S mid j a3 (by omega), ← List.append_assoc]
    exact pm.append_right _
  · intro p q h1 h2 h3
    rw [gd_set _ _ _ _ hk, gd_set _ _ _ _ hk, if_neg (by omega)]
    by_cases e : k = q
    · rw [if_pos e]; exact rt p j h1 (by omega) (Nat.le_refl _) hj1
    · rw [if_neg e]; exact od p q h1 h2 (by omega)
  · intro p q h1 h2 h3 h4
    rw [gd_set _ _ _ _ hk]
    by_cases e : k = p
    · rw [if_pos e]
      have h5 := hc (by omega)
      by_cases e2 : i = q
      · rw [← e2]; exact h5
      · have := o1 i q a1 (by omega) h4
        omega
    · rw [if_neg e]; exact lf p q h1 (by omega) h3 h4
  · intro p q h1 h2 h3 h4
    rw [gd_set _ _ _ _ hk]
    by_cases e : k = p
    · rw [if_pos e]; exact o2 j q a3 (by omega) h4
    · rw [if_neg e]; exact rt p q h1 (by omega) (by omega) h4

theorem mrg_full {S T : List Int} {lo mid hi i j k : Nat} (h : Mrg S T lo mid hi i j k) (hk : k = hi) (hmh : mid ≤ hi) : (T.take hi).Perm (S.take hi) ∧ Ord T lo hi := by
  obtain ⟨a1, a2, a3, a4, a5, pm, od, lf, rt⟩ := h
  subst hk
  have e1 : i = mid := by omega
  have e2 : j = k := by omega
  subst e1
  subst e2
  refine ⟨?_, od⟩
  have : S.take i ++ (S.drop i).take (j - i) = S.take j := by
    rw [← List.take_append_drop i (S.take j), List.take_take, List.drop_take, Nat.min_eq_left hmh]
  rwa [this] at pm

/-- The two runs that are merged are in order. -/
theorem runs_ord (S : List Int) (W c mid hi n : Nat) (h : RunsTo S W n) (hm : mid ≤ c * (2 * W) + W) (hmn : mid ≤ n) (hh : hi ≤ c * (2 * W) + 2 * W) (hhn : hi ≤ n) (hmid : mid < hi → mid = c * (2 * W) + W) :
    Ord S (c * (2 * W)) mid ∧ Ord S mid hi := by
  have e1 : (2 * c) * W = c * (2 * W) := by rw [Nat.mul_comm 2 c, Nat.mul_assoc]
  have e2 : (2 * c + 1) * W = c * (2 * W) + W := by rw [Nat.add_mul, e1, Nat.one_mul]
  constructor
  · intro p q h1 h2 h3
    exact h (2 * c) p q (by rw [e1]; exact h1) h2 (by rw [e1]; omega) (by omega)
  · intro p q h1 h2 h3
    have := hmid (by omega)
    exact h (2 * c + 1) p q (by rw [e2]; omega) h2 (by rw [e2]; omega) (by omega)

/-- One more run of double width. -/
theorem runs_more (T T' : List Int) (V c hi : Nat) (h : RunsTo T V (c * V)) (hs : ∀ p, p < c * V → T'.getD p 0 = T.getD p 0) (ho : Ord T' (c * V) hi) (hh : hi ≤ c * V + V) : RunsTo T' V hi := by
  intro d p q h1 h2 h3 h4
  by_cases e : q < c * V
  · rw [hs p (by omega), hs q e]
    exact h d p q h1 h2 h3 e
  · have hcd : c = d := by
      rcases Nat.lt_trichotomy c d with h5 | h5 | h5
      · have := Nat.mul_le_mul_right V (show c + 1 ≤ d from h5)
        rw [Nat.add_mul, Nat.one_mul] at this
        omega
      · exact h5
      · have := Nat.mul_le_mul_right V (show d + 1 ≤ c from h5)
        rw [Nat.add_mul, Nat.one_mul] at this
        omega
    subst hcd
    exact ho p q h1 h2 h4

theorem runs_one (S : List Int) (n : Nat) : RunsTo S 1 n := by
  intro c p q h1 h2 h3
  omega

theorem runs_asc (S : List Int) (W : Nat) (h : RunsTo S W S.length) (hw : S.length ≤ W) : Asc S := by
  unfold Asc
  rw [List.pairwise_iff_getElem]
  intro i j hi hj hij
  have := h 0 i j (by omega) hij (by omega) hj
  rwa [gd_get S i hi, gd_get S j hj] at this

theorem same_below_set (T : List Int) (k lo : Nat) (x : Int) (h : lo ≤ k) (hk : k < T.length) : ∀ p, p < lo → (T.set k x).getD p 0 = T.getD p 0 := by
  intro p hp
  rw [gd_set _ _ _ _ hk, if_neg (by omega)]

end Go.Proofs.Qxb6602066a
