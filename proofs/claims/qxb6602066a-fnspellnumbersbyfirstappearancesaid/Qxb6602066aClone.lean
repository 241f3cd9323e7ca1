/-
  SEAT b6602066a: contracts of cloneInt32 (function 10) and of the bounds on total length (8, 13, 14).
-/
import Derived.Test.Qxb6602066aBase
namespace Go.Proofs.Qxb6602066a
open Go.RowKit

set_option maxHeartbeats 400000 in
theorem clone_nil (w : World) : Calls Try.prog 10 #[.slice none 0 0] w fun e w' => e = .returned (.slice none 0 0) ∧ w' = w := by
  have q22 : ∀ (w : World) (a : Option Addr) (n c n' c' : Nat), (binOp .eql 22 (.slice a n c) (.slice none n' c')).run Try.prog w = .ok (.bool a.isNone) w := fun w a n c n' c' => Lib.run_eql_slice_nil w _ _ a n c n' c' Try.underlying22
  go_enter Try.func10, Try.ntmps10
  go_wp2
  go_ret
  exact ⟨rfl, rfl⟩

set_option maxHeartbeats 800000 in
theorem clone_some (x : Addr) (cap : Nat) (zs : List Int) (w : World) (hn : zs.length ≤ 1048576)
    (hx : 0 < zs.length → ∃ b off, x = ⟨b, off, none⟩ ∧ ∀ i, i < zs.length → w.cell? ⟨b, off + i, none⟩ = some (.int .i32 (zs.getD i 0))) :
    Calls Try.prog 10 #[.slice (some x) zs.length cap] w fun e w' => e = .returned (.slice (some ⟨w.heap.size, 0, none⟩) zs.length zs.length) ∧ w'.ownsRow w.heap.size 21 1 (.slice (some ⟨w.heap.size, 0, none⟩) zs.length zs.length) zs.length (zs.map (Value.int .i32)) ∧ Below w.heap.size w w' := by
  have q22 : ∀ (w : World) (a : Option Addr) (n c n' c' : Nat), (binOp .eql 22 (.slice a n c) (.slice none n' c')).run Try.prog w = .ok (.bool a.isNone) w := fun w a n c n' c' => Lib.run_eql_slice_nil w _ _ a n c n' c' Try.underlying22
  obtain ⟨i0, hi, hz0, hz1, hz2⟩ := info_parts Try.info21
  go_enter Try.func10, Try.ntmps10
  go_wp2_with (at_make; refine wpList_make_full _ rfl _ _ 22 rfl w.heap.size 21 i0 (.int .i32 0) 1 Try.underlying22 hi hz0 hz1 _ _ _ _ zs.length rfl rfl rfl rfl ?b1 ?b2 ?b3 ?_)
  case b1 => rw [hz2]; omega
  case b2 => unfold maxLen; omega
  case b3 => exact Nat.le_refl _
  intro w1 hown hgrow
  have hbel : Below w.heap.size w w1 := (Below.refl _ _).grown hgrow (Nat.le_refl _) (fun k h => by cases h)
  have hown0 : w1.ownsRow w.heap.size 21 1 (.slice (some ⟨w.heap.size, 0, none⟩) zs.length zs.length) zs.length ((half zs 0).map (Value.int .i32)) := by
    rw [half_zero]; simpa [Value.cells, toList_madeCells_one] using hown
  clear hown hgrow q22
  go_wp2
  go_loopw [4] (fun i wr => ∃ k : Nat, k ≤ zs.length ∧ i = .int .i64 k ∧ wr.ownsRow w.heap.size 21 1 (.slice (some ⟨w.heap.size, 0, none⟩) zs.length zs.length) zs.length ((half zs k).map (Value.int .i32)) ∧ Below w.heap.size w wr)
    (fun i _ => zs.length - (intOf i).toNat)
  case atStart => exact ⟨0, Nat.zero_le _, rfl, hown0, hbel⟩
  case round =>
    clear hown0 hbel
    obtain ⟨k, hk, rfl, hown, hbel⟩ := hrel
    by_cases hlt : k < zs.length
    · obtain ⟨b, off, rfl, hc⟩ := hx (by omega)
      have hck : wr.cell? ⟨b, off + k, none⟩ = some (.int .i32 (zs.getD k 0)) := by
        rw [hbel.cell (World.block_lt_of_cell? w _ (hc k hlt))]; exact hc k hlt
      have hfz := hown.frozenAt k
      obtain ⟨old, hold⟩ : ∃ u, wr.cell? ⟨w.heap.size, k, none⟩ = some u := by
        rw [hown.cellAt k (by omega)]
        have hl := half_length zs k hk
        exact ⟨_, List.getElem?_eq_getElem (by simpa [hl] using hlt)⟩
      have R := half_store hlt hown hbel (Nat.le_refl _)
      clear hc hx hown hbel
      go_wp2
      go_roundw
      case rel => exact ⟨k + 1, by omega, by go_num, by simpa [hlt] using R.1, by simpa [hlt] using R.2⟩
      case measure => simp [intOf]; omega
    · go_wp2
      go_ret
      have hkl : k = zs.length := by omega
      subst hkl
      rw [half_all] at hown
      exact ⟨rfl, hown, hbel⟩

theorem clone_any (v : Value) (zs : List Int) (w : World) (hn : zs.length ≤ 1048576) (h : Rd (Value.int .i32) 0 w v zs) :
    Calls Try.prog 10 #[v] w fun e w' => ∃ ao, e = .returned (.slice ao zs.length zs.length) ∧ w'.ownsRow w.heap.size 21 1 (.slice ao zs.length zs.length) zs.length (zs.map (Value.int .i32)) ∧ Below w.heap.size w w' := by
  obtain ⟨ao, cap, rfl, h1, h2, h3, h4⟩ := h
  cases ao with
  | none =>
    obtain ⟨h5, rfl⟩ := h3 rfl
    have hz : zs = [] := List.eq_nil_of_length_eq_zero h5
    subst hz
    refine (clone_nil w).mono ?_
    rintro e w' ⟨rfl, rfl⟩
    exact ⟨none, rfl, World.ownsRow_nil _ _ _ _, Below.refl _ _⟩
  | some x =>
    refine (clone_some x cap zs w hn (fun h0 => ?_)).mono ?_
    · obtain ⟨b, off, he, hc⟩ := h4 h0
      exact ⟨b, off, Option.some.inj he, hc⟩
    · rintro e w' ⟨rfl, hown, hb⟩
      exact ⟨_, rfl, hown, hb⟩

set_option maxHeartbeats 400000 in
theorem bytes8 (a : Option Addr) (n c : Nat) (w : World) (h : n ≤ 1048576) : Calls Try.prog 8 #[.slice a n c] w fun e w' => e = .returned (.bool true) ∧ w = w' := by
  go_enter Try.func8, Try.ntmps8
  go_wp2
  go_ret
  exact ⟨rfl, rfl⟩
set_option maxHeartbeats 400000 in
theorem bytes8_no (a : Option Addr) (n c : Nat) (w : World) (h : 1048576 < n) : Calls Try.prog 8 #[.slice a n c] w fun e w' => e = .returned (.bool false) ∧ w = w' := by
  go_enter Try.func8, Try.ntmps8
  go_wp2
  go_ret
  exact ⟨rfl, rfl⟩

set_option maxHeartbeats 400000 in
theorem bytes13 (a : Option Addr) (n c : Nat) (w : World) (h : n ≤ 1048576) : Calls Try.prog 13 #[.slice a n c] w fun e w' => e = .returned (.bool true) ∧ w = w' := by
  go_enter Try.func13, Try.ntmps13
  go_wp2
  go_ret
  exact ⟨rfl, rfl⟩
set_option maxHeartbeats 400000 in
theorem bytes13_no (a : Option Addr) (n c : Nat) (w : World) (h : 1048576 < n) : Calls Try.prog 13 #[.slice a n c] w fun e w' => e = .returned (.bool false) ∧ w = w' := by
  go_enter Try.func13, Try.ntmps13
  go_wp2
  go_ret
  exact ⟨rfl, rfl⟩

set_option maxHeartbeats 400000 in
theorem bytes14 (a : Option Addr) (n c : Nat) (a1 : Option Addr) (n1 c1 : Nat) (w : World) (h : n + n1 ≤ 1048576) : Calls Try.prog 14 #[.slice a n c, .slice a1 n1 c1] w fun e w' => e = .returned (.bool true) ∧ w = w' := by
  go_enter Try.func14, Try.ntmps14
  go_wp2
  go_ret
  exact ⟨rfl, rfl⟩
set_option maxHeartbeats 400000 in
theorem bytes14_no (a : Option Addr) (n c : Nat) (a1 : Option Addr) (n1 c1 : Nat) (w : World) (h0 : n ≤ 9223372036854775807) (h1 : n1 ≤ 9223372036854775807) (h : 1048576 < n + n1) : Calls Try.prog 14 #[.slice a n c, .slice a1 n1 c1] w fun e w' => e = .returned (.bool false) ∧ w = w' := by
  by_cases h2 : n ≤ 1048576
  · by_cases h3 : n1 ≤ 1048576
    · go_enter Try.func14, Try.ntmps14
      go_wp2
      go_ret
      exact ⟨rfl, rfl⟩
    · go_enter Try.func14, Try.ntmps14
      go_wp2
      go_ret
      exact ⟨rfl, rfl⟩
  · go_enter Try.func14, Try.ntmps14
    go_wp2
    go_ret
    exact ⟨rfl, rfl⟩

end Go.Proofs.Qxb6602066a
