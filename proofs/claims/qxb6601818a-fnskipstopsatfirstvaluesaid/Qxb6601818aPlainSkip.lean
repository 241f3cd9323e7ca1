/-
  SEAT b6601818a: THE PLAIN LAWS OF skip: lists and integers alone, no Go in sight.
-/
namespace Go.Proofs.Qxb6601818a

/-- A byte that may stand between two values on its own. -/
def sepB (c : Int) : Bool := c == 32 || c == 9 || c == 13 || c == 10 || c == 61 || c == 44

/-- How many bytes are skipped: outside a comment (false), inside one (true). -/
def skp : List Int → Bool → Nat
  | [], _ => 0
  | c :: cs, true => 1 + skp cs (c != 10)
  | c :: cs, false => if sepB c = true then 1 + skp cs false else if c = 35 then 1 + skp cs true else 0

theorem drop_at (zs : List Int) (p : Nat) (h : p < zs.length) : zs.drop p = zs.getD p 0 :: zs.drop (p + 1) := by
  rw [List.drop_eq_getElem_cons h]
  simp [List.getD, h]

theorem skp_nil (b : Bool) : skp [] b = 0 := by cases b <;> rfl

theorem skp_in (zs : List Int) (p : Nat) (h : p < zs.length) (h10 : ¬ zs.getD p 0 = 10) : skp (zs.drop p) true = 1 + skp (zs.drop (p + 1)) true := by
  rw [drop_at zs p h, skp, show (zs.getD p 0 != 10) = true by simpa using h10]
theorem skp_in_nl (zs : List Int) (p : Nat) (h : p < zs.length) (h10 : zs.getD p 0 = 10) : skp (zs.drop p) true = 1 + skp (zs.drop (p + 1)) false := by
  rw [drop_at zs p h, skp, show (zs.getD p 0 != 10) = false by simpa using h10]
theorem skp_sep (zs : List Int) (p : Nat) (h : p < zs.length) (hs : sepB (zs.getD p 0) = true) : skp (zs.drop p) false = 1 + skp (zs.drop (p + 1)) false := by
  rw [drop_at zs p h, skp, if_pos hs]
theorem skp_hash (zs : List Int) (p : Nat) (h : p < zs.length) (hs : zs.getD p 0 = 35) : skp (zs.drop p) false = 1 + skp (zs.drop (p + 1)) true := by
  rw [drop_at zs p h, skp, hs, if_neg (by decide), if_pos rfl]
theorem skp_stop (zs : List Int) (p : Nat) (h : p < zs.length) (hs : ¬ sepB (zs.getD p 0) = true) (h35 : ¬ zs.getD p 0 = 35) : skp (zs.drop p) false = 0 := by
  rw [drop_at zs p h, skp, if_neg hs, if_neg h35]
theorem skp_hash_in (zs : List Int) (p : Nat) (h : p < zs.length) (hs : zs.getD p 0 = 35) : skp (zs.drop p) false = skp (zs.drop p) true := by
  rw [skp_hash zs p h hs, skp_in zs p h (by omega)]
theorem skp_nl_in (zs : List Int) (p : Nat) (h : p < zs.length) (hs : zs.getD p 0 = 10) : skp (zs.drop p) true = skp (zs.drop p) false := by
  rw [skp_in_nl zs p h hs, skp_sep zs p h (by rw [hs]; decide)]

theorem skp_le (zs : List Int) : ∀ b, skp zs b ≤ zs.length := by
  induction zs with
  | nil => intro b; rw [skp_nil]; exact Nat.le_refl _
  | cons c cs ih =>
    intro b
    cases b with
    | true => rw [skp, List.length_cons]; have := ih (c != 10); omega
    | false =>
      rw [skp, List.length_cons]
      have h1 := ih false
      have h2 := ih true
      split
      · omega
      · split <;> omega

/-- What is skipped rests on the bytes up to where it stops: cut there, or just behind. -/
theorem skp_cut (zs : List Int) : ∀ b n, skp zs b ≤ n → skp (zs.take n) b = skp zs b := by
  induction zs with
  | nil => intro b n _; simp
  | cons c cs ih =>
    intro b n h
    cases n with
    | zero => rw [List.take_zero, skp_nil]; omega
    | succ n =>
      rw [List.take_succ_cons]
      cases b with
      | true =>
        rw [skp] at h
        rw [skp, skp, ih (c != 10) n (by omega)]
      | false =>
        rw [skp] at h ⊢
        rw [skp]
        split at h
        · rw [if_pos ‹_›, if_pos ‹_›, ih false n (by omega)]
        · split at h
          · rw [if_neg ‹_›, if_pos ‹_›, if_neg ‹_›, if_pos ‹_›, ih true n (by omega)]
          · rw [if_neg ‹_›, if_neg ‹_›, if_neg ‹_›, if_neg ‹_›]

/-- Where skip stops, from offset o on. -/
def skF (zs : List Int) (o : Nat) : Nat := o + skp (zs.drop o) false

theorem skF_past (zs : List Int) (o : Nat) (h : zs.length ≤ o) : skF zs o = o := by
  unfold skF; rw [List.drop_eq_nil_of_le h, skp_nil]; rfl
theorem skF_le (zs : List Int) (o : Nat) (h : o ≤ zs.length) : o ≤ skF zs o ∧ skF zs o ≤ zs.length := by
  unfold skF
  have := skp_le (zs.drop o) false
  rw [List.length_drop] at this
  omega
theorem skF_cut (zs : List Int) (o n : Nat) (ho : o ≤ n) (h : skF zs o ≤ n) : skF (zs.take n) o = skF zs o := by
  unfold skF at h ⊢
  rw [List.drop_take, skp_cut (zs.drop o) false (n - o) (by omega)]

end Go.Proofs.Qxb6601818a
