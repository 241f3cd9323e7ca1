/-
  PROOF OF 'Rows.FnAppendKeptIsDstThenRankedPlacesSaid': the frame after the guide's tool (its shell for two slices), the second slice one of bools; the walk: Qxb6602066aRanked.
-/
import Derived.Test.Qxb6602066aRanked
import Derived.OpenShut
import Derived.ShutString
import Derived.ChangeOld
import Derived.Deep.Slices
namespace Go.Proofs.Qxb6602066a.fnAppendKeptIsDstThenRankedPlaces
open Go.ChangeShapes Go.WideShapes Go.ChangeAt Go.RowKit
set_option linter.unusedVariables false

theorem own : ownKnob Try.prog.godebug = none := by kernel_rfl
theorem laidOut : laidOutB Try.prog = true := by kernel_rfl
theorem cells4 : Try.prog.cellsOf 4 = 1 := by kernel_rfl

theorem rd_ints {H : Type} {enc : TypeId × Value → H} {w : World} {base : Nat} {sp : Nat → Bool} {held : Bool} {fuel : Nat} {x : DataW H × List MemPlace} {a : Option Addr} {len cap : Nat} {k : IntKind} {t e : TypeId}
    (ht : Try.prog.underlying t = some (.slice e)) (he : Try.prog.underlying e = some (.int k)) (hc : Try.prog.cellsOf e = 1)
    (h : DataW.trod enc Try.prog w base sp held fuel t [.slice a len cap] = some x) : ∃ ys, ys.length = len ∧ Rd (Value.int k) 0 w (.slice a len cap) ys := by
  rcases open_ints ht he hc h with ⟨hcs, _⟩ | ⟨x, l, c, zs, hcs, _, hl, hm, hz, _, hcell, hwz⟩
  · simp at hcs
    obtain ⟨rfl, rfl, rfl⟩ := hcs
    exact ⟨[], rfl, Rd.nil⟩
  · simp at hcs
    obtain ⟨rfl, rfl, rfl⟩ := hcs
    have hle : len ≤ zs.length := by rw [hz]; split <;> omega
    have hlen : (zs.take len).length = len := by simp; omega
    refine ⟨zs.take len, hlen, some x, cap, by rw [hlen], by omega, hm, fun h => (by cases h), fun h0 => ?_⟩
    obtain ⟨b, off, rfl, hc'⟩ := ints_at hcell (by omega)
    refine ⟨b, off, rfl, fun i hi => ?_⟩
    rw [hc' i (by omega)]
    simp [List.getD, show i < len by omega]

theorem rd_bools {H : Type} {enc : TypeId × Value → H} {w : World} {base : Nat} {sp : Nat → Bool} {held : Bool} {fuel : Nat} {x : DataW H × List MemPlace} {a : Option Addr} {len cap : Nat} {t : TypeId}
    (ht : Try.prog.underlying t = some (.slice 4))
    (h : DataW.trod enc Try.prog w base sp held fuel t [.slice a len cap] = some x) : ∃ bs, bs.length = len ∧ Rd Value.bool false w (.slice a len cap) bs := by
  rcases Go.Deep.open_slice1 ht cells4 h with ⟨hcs, _⟩ | ⟨y, l, c, m, n, V, D, Pl, hcs, _, hl, hm, hmm, _, hx⟩
  · simp at hcs
    obtain ⟨rfl, rfl, rfl⟩ := hcs
    exact ⟨[], rfl, Rd.nil⟩
  · simp at hcs
    obtain ⟨rfl, rfl, rfl⟩ := hcs
    have hle : len ≤ m := by rw [hmm]; split <;> omega
    have hV : ∀ i, i < len → ∃ b, V i = .bool b := fun i hi => by
      obtain ⟨b, h1, _⟩ := DataW.trod_bool Try.underlying4 (hx i (by omega)).2
      exact ⟨b, by simpa using h1⟩
    obtain ⟨f, hf⟩ := Go.Deep.choose_lt hV
    have hlen : ((List.range len).map f).length = len := by simp
    refine ⟨(List.range len).map f, hlen, some y, cap, by rw [hlen], by omega, hm, fun h => (by cases h), fun h0 => ?_⟩
    obtain ⟨b, off, spot⟩ := y
    have hspot : spot = none := by simpa [Addr.add] using World.cell?_spot (hx 0 (by omega)).1
    subst hspot
    refine ⟨b, off, rfl, fun i hi => ?_⟩
    rw [← add_plain, (hx i (by omega)).1, hf i (by omega)]
    simp [List.getD, show i < len by omega]

set_option maxRecDepth 100000 in
theorem lifted (os : Os) (started : os.Started) (H : Type) (enc : TypeId × Value → H) :
    ReturnsInHanded {} Try.checked os 5 .any (Rows.fnAppendKeptIsDstThenRankedPlacesSpec.pre6 enc Try.prog Try.f5 Rows.fnAppendKeptIsDstThenRankedPlacesRow.domain false) (Rows.fnAppendKeptIsDstThenRankedPlacesSpec.post enc Try.prog Try.f5 false true false false) := by
  refine returnsInHanded_of_change (C := Try.checked) own started (by kernel_rfl) Try.func5
    (ChangeSpec.witness6 (enc := enc) (C := Try.checked) false ⟨#[], #[.slice none 0 0, .slice none 0 0], []⟩ 8 (by kernel_rfl) (by kernel_rfl) (by kernel_rfl) (by kernel_rfl)) ?_
  intro W base args ds gs before hval0 hW hcnd _
  have hval : ∀ (j : Nat) t v, Try.f5.params[j]? = some t → args[j]? = some v → Value.okWide Try.prog W .any base t v := hval0
  have hW' := hW
  obtain ⟨p, q, hA0, hV, rfl, hfz, hnd⟩ := hW
  have hA : DataW.TrodAll enc Try.prog W 0 (fun _ => true) true Try.f5.params.toList args.toList ds p := hA0
  rw [Try.params5] at hA hval
  obtain ⟨v0, vs0, d0, ds0, p0, q0, hargs, rfl, rfl, h0, r0⟩ := trodAll_cons hA
  obtain ⟨v1, vs1, d1, ds1, p1, q1, rfl, rfl, rfl, h1, r1⟩ := trodAll_cons r0
  obtain ⟨rfl, rfl, rfl⟩ := trodAll_nil r1
  obtain rfl : args = #[v0, v1] := by cases args; simp_all
  obtain ⟨rfl, rfl⟩ := trodVars_none hV
  obtain ⟨a0, len0, cap0, rfl⟩ := okWide_slice Try.underlying22 (hval 0 22 v0 rfl rfl)
  have k0 := h0
  have lt0 : ∀ x ∈ p0, x.block < W.heap.size := by obtain ⟨m, hm⟩ := k0; exact DataW.trod_lt m _ _ _ hm
  obtain ⟨z0, rfl, w0⟩ : ∃ zs, zs.length = len0 ∧ Rd (Value.int .i32) 0 W (.slice a0 len0 cap0) zs := by
    obtain ⟨fuel, hf⟩ := h0
    exact rd_ints Try.underlying22 Try.underlying21 (by kernel_rfl) (by simpa [Value.cells] using hf)
  obtain ⟨a1, len1, cap1, rfl⟩ := okWide_slice Try.underlying27 (hval 1 27 v1 rfl rfl)
  have k1 := h1
  have lt1 : ∀ x ∈ p1, x.block < W.heap.size := by obtain ⟨m, hm⟩ := k1; exact DataW.trod_lt m _ _ _ hm
  obtain ⟨z1, rfl, w1⟩ : ∃ bs, bs.length = len1 ∧ Rd Value.bool false W (.slice a1 len1 cap1) bs := by
    obtain ⟨fuel, hf⟩ := h1
    exact rd_bools Try.underlying27 (by simpa [Value.cells] using hf)
  clear hA0 hval0
  refine (ranked_any a0 cap0 z0 a1 cap1 z1 W w0 w1).mono fun e W' ⟨he, bel⟩ => ?_
  subst he
  exact ⟨_, rfl, _, _, _, [], _, [], hW', trodAll_mk1 (shut_bool Try.underlying4 _), (trodAll_cons_mk (Below.trod laidOut (by kernel_rfl) (of_decide_eq_true (by kernel_rfl)) k0 bel lt0) (trodAll_cons_mk (Below.trod laidOut (by kernel_rfl) (of_decide_eq_true (by kernel_rfl)) k1 bel lt1) trodAll_mk0)), rfl, bel.frame _, fun h => by cases h⟩

theorem over : Rows.fnAppendKeptIsDstThenRankedPlacesRow.holds Try.pinned (OpenSpec.ofChange Rows.fnAppendKeptIsDstThenRankedPlacesSpec) :=
  OpenClaim.holds_of_wide 5 Try.f5 rfl rfl rfl rfl rfl rfl rfl ⟨rfl, rfl, rfl, rfl, rfl⟩ rfl rfl rfl rfl rfl (by kernel_rfl) Try.func5 (by kernel_rfl)
    (of_decide_eq_true (by kernel_rfl)) (by unfold Func.isWrapper; first | (rw [if_pos (by decide +kernel)]; kernel_rfl) | (rw [if_neg (by decide +kernel)]; exact ⟨rfl, rfl⟩))
    (fun os started H enc _ => lifted os started H enc)

/-- ████ THE STATEMENT ████ -/
theorem proved : Rows.FnAppendKeptIsDstThenRankedPlacesSaid := over
#print axioms proved
end Go.Proofs.Qxb6602066a.fnAppendKeptIsDstThenRankedPlaces
