/-
  PROOF OF 'Rows.FnSpellNumbersByFirstAppearanceSaid': the frame after the guide's tool (its shell for one slice), the elements structs of an int32 and a string; the walk: Qxb6602066aSpellLaw.
-/
import Derived.Test.Qxb6602066aSpellLaw
import Derived.OpenShut
import Derived.ShutString
import Derived.ChangeOld
import Derived.Deep.SlicePairs
namespace Go.Proofs.Qxb6602066a.fnSpellNumbersByFirstAppearance
open Go.ChangeShapes Go.WideShapes Go.ChangeAt Go.RowKit
set_option linter.unusedVariables false

theorem own : ownKnob Try.prog.godebug = none := by kernel_rfl
theorem laidOut : laidOutB Try.prog = true := by kernel_rfl
theorem cells35 : Try.prog.cellsOf 35 = 2 := by kernel_rfl
theorem cells21 : Try.prog.cellsOf 21 = 1 := by kernel_rfl
theorem cells9 : Try.prog.cellsOf 9 = 1 := by kernel_rfl

theorem rd_calls {H : Type} {enc : TypeId × Value → H} {w : World} {base : Nat} {sp : Nat → Bool} {held : Bool} {fuel : Nat} {x : DataW H × List MemPlace} {a : Option Addr} {len cap : Nat}
    (h : DataW.trod enc Try.prog w base sp held fuel 32 [.slice a len cap] = some x) : ∃ cs, cs.length = len ∧ RdC w (.slice a len cap) cs := by
  rcases Go.Deep.open_slice_pairs Try.underlying32 Try.underlying35 cells35 rfl rfl cells21 cells9 h with ⟨hcs, _⟩ | ⟨y, l, c, m, n, V0, V1, D0, D1, P0, P1, hcs, _, hl, hm, hmm, _, hx⟩
  · simp at hcs
    obtain ⟨rfl, rfl, rfl⟩ := hcs
    exact ⟨[], rfl, none, 0, rfl, fun i hi => by simp at hi, fun h => absurd h (by simp)⟩
  · simp at hcs
    obtain ⟨rfl, rfl, rfl⟩ := hcs
    have hle : len ≤ m := by rw [hmm]; split <;> omega
    have hV : ∀ i, i < len → ∃ q : Int × ByteArray, V0 i = .int .i32 q.1 ∧ V1 i = .string q.2 ∧ (Lit.int .i32 q.1).wf = true := fun i hi => by
      obtain ⟨_, _, h3, h4⟩ := hx i (by omega)
      obtain ⟨p, hp, _, hw⟩ := DataW.trod_int Try.underlying21 h3
      obtain ⟨t, ht, _, _⟩ := DataW.trod_string Try.underlying9 h4
      exact ⟨(p, t), by simpa using hp, by simpa using ht, hw⟩
    obtain ⟨f, hf⟩ := Go.Deep.choose_lt hV
    have hlen : ((List.range len).map f).length = len := by simp
    have hcl : ∀ i, i < len → cl ((List.range len).map f) i = f i := fun i hi => by simp [cl, List.getD, hi]
    refine ⟨(List.range len).map f, hlen, some y, cap, by rw [hlen], fun i hi => ?_, fun h0 => ?_⟩
    · rw [hcl i (by omega)]; exact (hf i (by omega)).2.2
    · obtain ⟨b, off, spot⟩ := y
      have hspot : spot = none := by simpa [Addr.add] using World.cell?_spot (hx 0 (by omega)).1
      subst hspot
      have hcell : ∀ i, i < len → w.cell? ⟨b, off + i * 2, none⟩ = some (.int .i32 (f i).1) ∧ w.cell? ⟨b, off + i * 2 + 1, none⟩ = some (.string (f i).2) := fun i hi => by
        obtain ⟨h1, h2, _, _⟩ := hx i (by omega)
        rw [add_plain] at h1 h2
        rw [← (hf i hi).1, ← (hf i hi).2.1]
        exact ⟨h1, by rw [Nat.add_assoc]; exact h2⟩
      refine ⟨b, off, rfl, World.block_lt_of_cell? w _ (hcell 0 (by omega)).1, fun i hi => ?_⟩
      rw [hcl i (by omega)]
      exact hcell i (by omega)

set_option maxRecDepth 100000 in
theorem lifted (os : Os) (started : os.Started) (H : Type) (enc : TypeId × Value → H) :
    ReturnsInHanded {} Try.checked os 7 .any (Rows.fnSpellNumbersByFirstAppearanceSpec.pre6 enc Try.prog Try.f7 Rows.fnSpellNumbersByFirstAppearanceRow.domain false) (Rows.fnSpellNumbersByFirstAppearanceSpec.post enc Try.prog Try.f7 false true false false) := by
  refine returnsInHanded_of_change (C := Try.checked) own started (by kernel_rfl) Try.func7
    (ChangeSpec.witness6 (enc := enc) (C := Try.checked) false ⟨#[], #[.slice none 0 0], []⟩ 8 (by kernel_rfl) (by kernel_rfl) (by kernel_rfl) (by kernel_rfl)) ?_
  intro W base args ds gs before hval0 hW hcnd _
  have hval : ∀ (j : Nat) t v, Try.f7.params[j]? = some t → args[j]? = some v → Value.okWide Try.prog W .any base t v := hval0
  have hW' := hW
  obtain ⟨p, q, hA0, hV, rfl, hfz, hnd⟩ := hW
  have hA : DataW.TrodAll enc Try.prog W 0 (fun _ => true) true Try.f7.params.toList args.toList ds p := hA0
  rw [Try.params7] at hA hval
  obtain ⟨v0, vs0, d0, ds0, p0, q0, hargs, rfl, rfl, h0, r0⟩ := trodAll_cons hA
  obtain ⟨rfl, rfl, rfl⟩ := trodAll_nil r0
  obtain rfl : args = #[v0] := by cases args; simp_all
  obtain ⟨rfl, rfl⟩ := trodVars_none hV
  obtain ⟨a0, len0, cap0, rfl⟩ := okWide_slice Try.underlying32 (hval 0 32 v0 rfl rfl)
  have k0 := h0
  have lt0 : ∀ x ∈ p0, x.block < W.heap.size := by obtain ⟨m, hm⟩ := k0; exact DataW.trod_lt m _ _ _ hm
  obtain ⟨z0, rfl, w0⟩ : ∃ cs, cs.length = len0 ∧ RdC W (.slice a0 len0 cap0) cs := by
    obtain ⟨fuel, hf⟩ := h0
    exact rd_calls (by simpa [Value.cells] using hf)
  clear hA0 hval0
  refine (spellLaw_any a0 cap0 z0 W w0).mono fun e W' ⟨he, bel⟩ => ?_
  subst he
  exact ⟨_, rfl, _, _, _, [], _, [], hW', trodAll_mk1 (shut_bool Try.underlying4 _), (trodAll_cons_mk (Below.trod laidOut (by kernel_rfl) (of_decide_eq_true (by kernel_rfl)) k0 bel lt0) trodAll_mk0), rfl, bel.frame _, fun h => by cases h⟩

theorem over : Rows.fnSpellNumbersByFirstAppearanceRow.holds Try.pinned (OpenSpec.ofChange Rows.fnSpellNumbersByFirstAppearanceSpec) :=
  OpenClaim.holds_of_wide 7 Try.f7 rfl rfl rfl rfl rfl rfl rfl ⟨rfl, rfl, rfl, rfl, rfl⟩ rfl rfl rfl rfl rfl (by kernel_rfl) Try.func7 (by kernel_rfl)
    (of_decide_eq_true (by kernel_rfl)) (by unfold Func.isWrapper; first | (rw [if_pos (by decide +kernel)]; kernel_rfl) | (rw [if_neg (by decide +kernel)]; exact ⟨rfl, rfl⟩))
    (fun os started H enc _ => lifted os started H enc)

/-- ████ THE STATEMENT ████ -/
theorem proved : Rows.FnSpellNumbersByFirstAppearanceSaid := over
#print axioms proved
end Go.Proofs.Qxb6602066a.fnSpellNumbersByFirstAppearance
