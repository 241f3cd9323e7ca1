/-
  SEAT b6602066a: slices.Grow at []int32 (function 25), where the slice's capacity is its length. After the guide's Derived/Shelf/Spec/SlicesGrow.lean.
-/
import Derived.Test.Qxb6602066aClone
import Derived.Lib.AppendZerosOnto
namespace Go.Proofs.Qxb6602066a
open Go.RowKit

set_option maxHeartbeats 400000 in
theorem grow_none (base : Option Addr) (l : Nat) (w : World) (_hl : l ≤ 1048576) :
    Calls Try.prog 25 #[.slice base l l, .int .i64 0] w fun e w' => e = .returned (.slice base l l) ∧ w = w' := by
  go_enter Try.func25, Try.ntmps25
  go_wp2
  go_ret
  exact ⟨rfl, rfl⟩

set_option maxHeartbeats 800000 in
theorem grow_some (base : Option Addr) (n : Nat) (zs : List Int) (w : World) (hl : zs.length ≤ 1048576) (hn : n ≤ 1048576) (h0 : 0 < n)
    (hrd : Rd (Value.int .i32) 0 w (.slice base zs.length zs.length) zs) :
    Calls Try.prog 25 #[.slice base zs.length zs.length, .int .i64 n] w fun e w' => ∃ G, e = .returned (.slice (some ⟨w.heap.size, 0, none⟩) zs.length G) ∧
      w'.ownsRow w.heap.size 21 1 (.slice (some ⟨w.heap.size, 0, none⟩) zs.length G) zs.length (zs.map (Value.int .i32)) ∧ Below w.heap.size w w' := by
  obtain ⟨i0, hi, hz0, hz1, hz2⟩ := info_parts Try.info21
  have hold : (Builtin.firstCells i0.size zs.length (.slice base zs.length zs.length)).run Try.prog w.drew = .ok (zs.map (Value.int .i32)).toArray w.drew := by
    rw [hz1]
    by_cases hzl : 0 < zs.length
    · obtain ⟨b, off, rfl, _, hc⟩ := hrd.at hzl
      refine run_firstCells_some w.drew 1 zs.length ⟨b, off, none⟩ zs.length zs.length (zs.map (Value.int .i32)) (by simp) (fun j v hj => ?_)
      have hjl : j < zs.length := by
        have := (List.getElem?_eq_some_iff.1 hj).1
        simpa using this
      have hj2 : v = .int .i32 (zs.getD j 0) := by
        rw [List.getElem?_map, List.getElem?_eq_getElem hjl] at hj
        simp at hj
        simp [List.getD, hjl, ← hj]
      subst hj2
      rw [Addr.add_lit]
      exact hc j hjl
    · have hz : zs = [] := List.eq_nil_of_length_eq_zero (by omega)
      subst hz
      cases base with
      | none => exact run_firstCells_none w.drew 1 0 0 0
      | some a => exact run_firstCells_some w.drew 1 0 a 0 0 [] (by simp) (fun j v hj => by simp at hj)
  have hrz : ∀ ty, (Builtin.append_ #[22, 3] ty #[.slice base zs.length zs.length, .int .i64 (n : Int)]).run Try.prog w =
      .ok (.slice (some ⟨w.heap.size, 0, none⟩) (zs.length + n) (grownCap w (zs.length + n) zs.length 21)) (w.drew.alloc (.cells ((zs.map (Value.int .i32)).toArray ++ Builtin.zeroCells (Value.int .i32 0).cells n ++ Builtin.zeroCells (Value.int .i32 0).cells (grownCap w (zs.length + n) zs.length 21 - (zs.length + n))) 21)) := fun ty =>
    Lib.run_append_grow_zeros w 22 3 ty 21 i0 (.int .i32 0) .i64 .i64 Try.underlying22 Try.underlying3 hi hz0 base zs.length zs.length (zs.map (Value.int .i32)) hold n h0 (by omega) (by omega) (by omega)
      (by rw [hz2]; omega) (growslice_fits (by omega) (by rw [hz2]; omega))
  have hGn : zs.length + n ≤ grownCap w (zs.length + n) zs.length 21 := grownCap_ge w _ _ _
  have hG63 := grownCap_le_maxLen w (zs.length + n) zs.length 21 (by unfold maxLen; omega)
  obtain ⟨G, hG⟩ : ∃ G, G = grownCap w (zs.length + n) zs.length 21 := ⟨_, rfl⟩
  rw [← hG] at hrz hGn hG63
  have hG63' : G ≤ 9223372036854775807 := by unfold maxLen at hG63; omega
  have hown : (w.drew.alloc (.cells ((zs.map (Value.int .i32)).toArray ++ Builtin.zeroCells (Value.int .i32 0).cells n ++ Builtin.zeroCells (Value.int .i32 0).cells (G - (zs.length + n))) 21)).ownsRow w.heap.size 21 1 (.slice (some ⟨w.heap.size, 0, none⟩) zs.length G) zs.length (zs.map (Value.int .i32)) := by
    refine ⟨by simp, .inr ⟨w.heap.size, G, _, rfl, Nat.le_refl _, heap_alloc_new w.drew _, by omega, hG63, ?_, ?_⟩⟩
    · simp only [Array.size_append, List.size_toArray, size_zeroCells, List.length_map, Value.cells]
      simp
      omega
    · simp
  have HO : Hid ((w.drew.alloc (.cells ((zs.map (Value.int .i32)).toArray ++ Builtin.zeroCells (Value.int .i32 0).cells n ++ Builtin.zeroCells (Value.int .i32 0).cells (G - (zs.length + n))) 21)).ownsRow w.heap.size 21 1 (.slice (some ⟨w.heap.size, 0, none⟩) zs.length G) zs.length (zs.map (Value.int .i32))) := hown
  have HB : Hid (Below w.heap.size w (w.drew.alloc (.cells ((zs.map (Value.int .i32)).toArray ++ Builtin.zeroCells (Value.int .i32 0).cells n ++ Builtin.zeroCells (Value.int .i32 0).cells (G - (zs.length + n))) 21))) :=
    (Below.refl _ _).drew.alloc (Nat.le_refl _) _
  obtain ⟨w1, hw1⟩ : ∃ w1, w1 = w.drew.alloc (.cells ((zs.map (Value.int .i32)).toArray ++ Builtin.zeroCells (Value.int .i32 0).cells n ++ Builtin.zeroCells (Value.int .i32 0).cells (G - (zs.length + n))) 21) := ⟨_, rfl⟩
  rw [← hw1] at hrz HO HB
  clear hold hG hown hw1 hrd
  go_enter Try.func25, Try.ntmps25
  cases base with
  | none =>
    go_wp2_with (at_builtin; refine Lib.wpList_append_run _ rfl _ _ _ _ rfl _ _ rfl rfl _ _ (hrz _) ?_)
    go_ret
    exact ⟨G, rfl, HO.out, HB.out⟩
  | some a =>
    go_wp2_with (at_builtin; refine Lib.wpList_append_run _ rfl _ _ _ _ rfl _ _ rfl rfl _ _ (hrz _) ?_)
    go_ret
    exact ⟨G, rfl, HO.out, HB.out⟩

end Go.Proofs.Qxb6602066a
