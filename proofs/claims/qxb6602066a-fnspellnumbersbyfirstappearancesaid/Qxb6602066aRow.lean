/-
  SEAT b6602066a: a block of int32 cells known whole ('Row').
-/
import Derived.Test.Qxb6602066aClone
import Derived.WalkSmall
import Derived.Deep.QuietTactic
import Derived.BigQuiet
namespace Go.Proofs.Qxb6602066a
open Go.RowKit

/-- The block g of w is a row of int32 cells, none frozen: the numbers L. -/
def Row (w : World) (g : Nat) (L : List Int) : Prop := w.heap[g]? = some (.cells (L.map (Value.int .i32)).toArray 21 (0, 0))

section
variable {w w' : World} {g : Nat} {L : List Int}

theorem Row.lt (h : Row w g L) : g < w.heap.size := (Array.getElem?_eq_some_iff.1 h).1
theorem Row.cell (h : Row w g L) (j : Nat) (hj : j < L.length) : w.cell? ⟨g, j, none⟩ = some (.int .i32 (L.getD j 0)) := by
  rw [cell_of_row w g j _ 21 (0, 0) h]
  simp [List.getD, hj]
theorem Row.frozen (h : Row w g L) (j : Nat) : w.frozen? ⟨g, j, none⟩ = false := frozen_of_row w g j _ 21 h
theorem Row.set (h : Row w g L) (j : Nat) (x : Int) : Row (w.setCell ⟨g, j, none⟩ (.int .i32 x)) g (L.set j x) := by
  unfold Row
  rw [heap_setCell_same w g j _ 21 _ h]
  simp [List.map_set]
theorem Row.other (h : Row w g L) (a : Addr) (u : Value) (hne : g ≠ a.block) : Row (w.setCell a u) g L := by
  unfold Row
  rw [Below.heap_setCell _ _ _ _ hne]; exact h
theorem Row.below {B : Nat} (h : Row w g L) (hb : Below B w w') (hg : g < B) : Row w' g L := by
  unfold Row
  rw [hb.block g hg]; exact h
theorem Row.drewN (h : Row w g L) (n : Nat) : Row (w.drewN n) g L := h
theorem Row.alloc (h : Row w g L) (o : Obj) : Row (w.alloc o) g L := h.below ((Below.refl w.heap.size w).alloc (Nat.le_refl _) o) h.lt

theorem Row.rd (h : Row w g L) (hm : L.length ≤ maxLen) : Rd (Value.int .i32) 0 w (.slice (some ⟨g, 0, none⟩) L.length L.length) L :=
  ⟨_, _, rfl, Nat.le_refl _, hm, fun h => (by cases h), fun _ => ⟨g, 0, rfl, fun i hi => by rw [Nat.zero_add]; exact h.cell i hi⟩⟩

/-- The first n of the row, with spare room behind them. -/
theorem Row.rdTake (h : Row w g L) (hm : L.length ≤ maxLen) (n : Nat) (hn : n ≤ L.length) : Rd (Value.int .i32) 0 w (.slice (some ⟨g, 0, none⟩) n L.length) (L.take n) :=
  (h.rd hm).taken hn

theorem Row.own {B n : Nat} (h : w.ownsRow B 21 1 (.slice (some ⟨g, 0, none⟩) n n) n (L.map (Value.int .i32))) : Row w g L ∧ B ≤ g := by
  rcases h.2 with ⟨h', _⟩ | ⟨g', cap', cur, h', hb, hg, _, _, hcs, htake⟩
  · simp at h'
  · simp only [Value.slice.injEq, Option.some.injEq, Addr.mk.injEq, and_true, true_and] at h'
    obtain ⟨rfl, rfl⟩ := h'
    refine ⟨?_, hb⟩
    unfold Row
    rw [← htake, List.take_of_length_le (by rw [Array.length_toList, hcs]; exact Nat.le_refl _), Array.toArray_toList]
    exact hg
end

end Go.Proofs.Qxb6602066a
