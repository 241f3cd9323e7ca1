/-
  SEAT b6602066a: small facts on worlds and slices that every walk of this seat uses.
-/
import Derived.Test.Qxb6602066aRows
import Derived.WalkKit
import Derived.ProofKit
import Derived.Lib.SliceRun
import Derived.Below
namespace Go.Proofs.Qxb6602066a
open Go.RowKit

theorem ret_int {k : IntKind} {a b : Int} (h : a = b) : Ending.returned (.int k a) = .returned (.int k b) := by rw [h]
theorem ret_bool {a b : Bool} (h : a = b) : Ending.returned (.bool a) = .returned (.bool b) := by rw [h]

/-- The slice value v reads, in w, as the elements zs; an element's cell is made by f; d: any element. -/
def Rd {α : Type} (f : α → Value) (d : α) (w : World) (v : Value) (zs : List α) : Prop :=
  ∃ ao cap, v = .slice ao zs.length cap ∧ zs.length ≤ cap ∧ cap ≤ maxLen ∧ (ao = none → zs.length = 0 ∧ cap = 0) ∧
    (0 < zs.length → ∃ b off, ao = some ⟨b, off, none⟩ ∧ ∀ i, i < zs.length → w.cell? ⟨b, off + i, none⟩ = some (f (zs.getD i d)))

section
variable {α : Type} {f : α → Value} {d : α} {w w' : World} {v : Value} {zs : List α}

/-- What was read in w reads the same in every world that is as w was below w's own size. -/
theorem Rd.below (h : Rd f d w v zs) (hb : Below w.heap.size w w') : Rd f d w' v zs := by
  obtain ⟨ao, cap, rfl, h1, h2, h3, h4⟩ := h
  refine ⟨ao, cap, rfl, h1, h2, h3, fun h0 => ?_⟩
  obtain ⟨b, off, rfl, hc⟩ := h4 h0
  refine ⟨b, off, rfl, fun i hi => ?_⟩
  rw [hb.cell (World.block_lt_of_cell? w _ (hc i hi))]
  exact hc i hi

/-- A row of the call's own reads as what it owns. -/
theorem Rd.own {base : Nat} {e : TypeId} (h : w.ownsRow base e 1 v zs.length (zs.map f)) : Rd f d w v zs := by
  rcases h.2 with ⟨rfl, h0⟩ | ⟨g, cap, cur, rfl, _, hg, hnc, hcm, _, _⟩
  · have hz : zs = [] := List.eq_nil_of_length_eq_zero h0
    subst hz
    exact ⟨none, 0, rfl, Nat.le_refl _, Nat.zero_le _, fun _ => ⟨rfl, rfl⟩, fun h => absurd h (by simp)⟩
  · refine ⟨_, cap, rfl, hnc, hcm, fun h => by simp at h, fun _ => ⟨g, 0, rfl, fun i hi => ?_⟩⟩
    have := h.cellAt i (by omega)
    rw [Nat.zero_add, this]
    simp [List.getD, hi]

theorem Rd.nil : Rd f d w (.slice none 0 0) [] := ⟨none, 0, rfl, Nat.le_refl _, Nat.zero_le _, fun _ => ⟨rfl, rfl⟩, fun h => absurd h (by simp)⟩

/-- The first q of what is read. -/
theorem Rd.taken {ao : Option Addr} {n cap q : Nat} (h : Rd f d w (.slice ao n cap) zs) (hq : q ≤ n) : Rd f d w (.slice ao q cap) (zs.take q) := by
  obtain ⟨ao', cap', hv, h1, h2, h3, h4⟩ := h
  simp only [Value.slice.injEq] at hv
  obtain ⟨rfl, rfl, rfl⟩ := hv
  have hl : (zs.take q).length = q := by simp; omega
  refine ⟨ao, cap, by rw [hl], by omega, h2, fun h => by have := h3 h; omega, fun h0 => ?_⟩
  obtain ⟨b, off, rfl, hc⟩ := h4 (by omega)
  refine ⟨b, off, rfl, fun i hi => ?_⟩
  rw [hc i (by omega)]
  simp [List.getD, show i < q by omega]

theorem Rd.len {ao : Option Addr} {n cap : Nat} (h : Rd f d w (.slice ao n cap) zs) : n = zs.length ∧ n ≤ cap ∧ cap ≤ 9223372036854775807 := by
  obtain ⟨ao', cap', hv, h1, h2, _, _⟩ := h
  simp only [Value.slice.injEq] at hv
  obtain ⟨rfl, rfl, rfl⟩ := hv
  exact ⟨rfl, h1, by simpa [maxLen] using h2⟩

/-- The cells of a slice that is not empty. -/
theorem Rd.at {ao : Option Addr} {n cap : Nat} (h : Rd f d w (.slice ao n cap) zs) (h0 : 0 < zs.length) :
    ∃ b off, ao = some ⟨b, off, none⟩ ∧ b < w.heap.size ∧ ∀ i, i < zs.length → w.cell? ⟨b, off + i, none⟩ = some (f (zs.getD i d)) := by
  obtain ⟨ao', cap', hv, _, _, _, h4⟩ := h
  simp only [Value.slice.injEq] at hv
  obtain ⟨rfl, rfl, rfl⟩ := hv
  obtain ⟨b, off, rfl, hc⟩ := h4 h0
  exact ⟨b, off, rfl, World.block_lt_of_cell? w _ (hc 0 h0), hc⟩
end

theorem Try.info21 : (Try.prog.info? 21).map (fun i => (i.zero, i.size, i.bytes)) = some (some (.int .i32 0), 1, 4) := by kernel_rfl
theorem Try.info3 : (Try.prog.info? 3).map (fun i => (i.zero, i.size, i.bytes)) = some (some (.int .i64 0), 1, 8) := by kernel_rfl
theorem Try.info4 : (Try.prog.info? 4).map (fun i => (i.zero, i.size, i.bytes)) = some (some (.bool false), 1, 1) := by kernel_rfl

/-- A copy half made: the first j numbers are there, zeros behind them. -/
def half (zs : List Int) (j : Nat) : List Int := zs.take j ++ List.replicate (zs.length - j) 0
theorem half_zero (zs : List Int) : half zs 0 = List.replicate zs.length 0 := by simp [half]
theorem half_all (zs : List Int) : half zs zs.length = zs := by simp [half]
theorem half_length (zs : List Int) (j : Nat) (h : j ≤ zs.length) : (half zs j).length = zs.length := by simp [half]; omega
theorem half_set (zs : List Int) (j : Nat) (h : j < zs.length) : (half zs j).set j (zs.getD j 0) = half zs (j + 1) := by
  apply List.ext_getElem?
  intro i
  have m1 : min j zs.length = j := by omega
  have m2 : min (j + 1) zs.length = j + 1 := by omega
  simp only [half, List.getElem?_set, List.getElem?_append, List.length_append, List.length_take, List.length_replicate, List.getElem?_take, List.getElem?_replicate, m1, m2]
  by_cases e : j = i
  · subst e
    rw [if_pos rfl, if_pos (by omega), if_pos (by omega), if_pos (by omega)]
    simp [List.getD, h]
  · rw [if_neg e]
    by_cases h1 : i < j
    · rw [if_pos h1, if_pos h1, if_pos (by omega), if_pos (by omega)]
    · rw [if_neg h1, if_neg (show ¬ i < j + 1 by omega)]
      by_cases h2 : i < zs.length
      · rw [if_pos (by omega), if_pos (by omega)]
      · rw [if_neg (by omega), if_neg (by omega)]

/-- One store of the copying loop. -/
theorem half_store {k : IntKind} {w wr : World} {B g : Nat} {e : TypeId} {zs : List Int} {j : Nat} (hj : j < zs.length)
    (hown : wr.ownsRow B e 1 (.slice (some ⟨g, 0, none⟩) zs.length zs.length) zs.length ((half zs j).map (Value.int k))) (hbel : Below B w wr) (hg : B ≤ g) :
    (wr.setCell ⟨g, j, none⟩ (.int k (zs.getD j 0))).ownsRow B e 1 (.slice (some ⟨g, 0, none⟩) zs.length zs.length) zs.length ((half zs (j + 1)).map (Value.int k)) ∧
    Below B w (wr.setCell ⟨g, j, none⟩ (.int k (zs.getD j 0))) := by
  refine ⟨?_, hbel.setCell hg _⟩
  have := (hown.stored j (.int k (zs.getD j 0))).1
  rwa [← List.map_set, half_set zs j hj] at this

end Go.Proofs.Qxb6602066a
