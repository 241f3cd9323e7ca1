/-
  SEAT b6602066a: the contracts of isMinHeap (9), (*queue).pop (23), ZZQueuePop (11).
-/
import Derived.Test.Qxb6602066aRow
import Derived.Test.Qxb6602066aPlainHeap
import Derived.BigRegion
namespace Go.Proofs.Qxb6602066a
open Go.RowKit

set_option maxHeartbeats 1600000 in
theorem heap_any (a0 : Option Addr) (n cap0 : Nat) (zs : List Int) (w : World) (hl : zs.length = n) (hn : n ≤ 1048576) (hrd : Rd (Value.int .i32) 0 w (.slice a0 n cap0) zs) :
    Calls Try.prog 9 #[.slice a0 n cap0] w fun e w' => ∃ b, e = .returned (.bool b) ∧ (b = true ↔ HeapN zs n) ∧ Below w.heap.size w w' := by
  have HN : Hid (zs.length = n) := hl
  clear hl
  go_enter Try.func9, Try.ntmps9
  go_wp2
  go_loopw [3] (fun iv wr => ∃ k : Nat, 1 ≤ k ∧ k ≤ 1048577 ∧ iv = .int .i64 k ∧ Hid (HeapN zs k) ∧ Below w.heap.size w wr) (fun iv _ => n - (intOf iv).toNat)
  case atStart => exact ⟨1, Nat.le_refl _, by omega, rfl, by intro j h1 h2; omega, Below.refl _ _⟩
  case round =>
    obtain ⟨k, hk1, hk2, rfl, HH, hbel⟩ := hrel
    by_cases hlt : k < n
    · obtain ⟨b, off, rfl, hbw, hc⟩ := (hrd.below hbel).at (by rw [HN.out]; omega)
      have h1 := hc ((k - 1) / 2) (by rw [HN.out]; omega)
      have h2 := hc k (by rw [HN.out]; omega)
      have e1 : (((k : Int) - 1) / 2).toNat = (k - 1) / 2 := by omega
      obtain ⟨x, hx⟩ : ∃ x, x = zs.getD ((k - 1) / 2) 0 := ⟨_, rfl⟩
      obtain ⟨y, hy⟩ : ∃ y, y = zs.getD k 0 := ⟨_, rfl⟩
      rw [← hx] at h1
      rw [← hy] at h2
      have HX : Hid (x = zs.getD ((k - 1) / 2) 0) := hx
      have HY : Hid (y = zs.getD k 0) := hy
      clear hx hy hc hrd
      by_cases hlt2 : y < x
      · have HB : Hid (¬ HeapN zs n) := by
          intro h
          have := h k hk1 hlt
          rw [← HX.out, ← HY.out] at this
          omega
        go_wp2
        go_quiet (fail)
        go_wp2
        go_ret
        exact ⟨false, rfl, by simpa using HB.out, below_drewN hbel _⟩
      · have HB : Hid (HeapN zs (k + 1)) := by
          intro j h1 h2
          by_cases e : j = k
          · subst e; rw [← HX.out, ← HY.out]; omega
          · exact HH.out j h1 (by omega)
        go_wp2
        go_quiet (fail)
        go_wp2
        go_roundw
        case rel => exact ⟨k + 1, by omega, by omega, by go_num, HB, below_drewN hbel _⟩
        case measure => simp [intOf]; omega
    · have HB : Hid (HeapN zs n) := fun j h1 h2 => HH.out j h1 (by omega)
      clear hrd
      go_wp2
      go_ret
      exact ⟨true, rfl, by simpa using HB.out, hbel⟩

theorem cell_other {w : World} {g d j : Nat} {u : Value} (h : d ≠ g) : (w.setCell ⟨g, j, none⟩ u).cell? ⟨d, 0, none⟩ = w.cell? ⟨d, 0, none⟩ :=
  World.cell?_setCell_other _ _ _ _ (fun e => h (congrArg Addr.block e).symm)

/-- All is as it was but for the blocks g and d. -/
structure But (g d : Nat) (w w' : World) : Prop where
  os : w'.os = w.os
  tape : w'.tape = w.tape
  output : w'.output = w.output
  size : w.heap.size ≤ w'.heap.size
  block : ∀ k, k < w.heap.size → k ≠ g → k ≠ d → w'.heap[k]? = w.heap[k]?

theorem But.refl (g d : Nat) (w : World) : But g d w w := ⟨rfl, rfl, rfl, Nat.le_refl _, fun _ _ _ _ => rfl⟩
theorem But.drewN {g d : Nat} {w w' : World} (h : But g d w w') (n : Nat) : But g d w (w'.drewN n) := ⟨h.os, h.tape, h.output, h.size, h.block⟩
theorem But.setCell {g d : Nat} {w w' : World} (h : But g d w w') (p : Addr) (hp : p.block = g ∨ p.block = d) (u : Value) : But g d w (w'.setCell p u) :=
  ⟨h.os, h.tape, h.output, by simpa [World.setCell] using h.size, fun k h1 h2 h3 => by rw [Below.heap_setCell _ _ _ _ (by omega)]; exact h.block k h1 h2 h3⟩

set_option maxHeartbeats 6400000 in
set_option maxRecDepth 100000 in
theorem pop_any (d g m cap : Nat) (L : List Int) (w : World) (hcap : cap ≤ 1048576) (hm : m + 1 ≤ cap) (hL : L.length = cap) (hdg : d ≠ g) (hheap : HeapN L (m + 1))
    (hd : w.cell? ⟨d, 0, none⟩ = some (.slice (some ⟨g, 0, none⟩) (m + 1) cap)) (hdf : w.frozen? ⟨d, 0, none⟩ = false) (hrow : Row w g L) :
    Calls Try.prog 23 #[.pointer (some ⟨d, 0, none⟩)] w fun e w' => e = .returned (.int .i32 (L.getD 0 0)) ∧ ∃ M : List Int, M.length = cap ∧ HeapN M m ∧ (L.getD 0 0 :: M.take m).Perm (L.take (m + 1)) ∧
      Row w' g M ∧ w'.cell? ⟨d, 0, none⟩ = some (.slice (some ⟨g, 0, none⟩) m cap) ∧ But g d w w' := by
  have h0 := hrow.cell 0 (by omega)
  have hlast := hrow.cell m (by omega)
  have hf0 := hrow.frozen 0
  have HB : Hid (HeapBut (L.set 0 (L.getD m 0)) m 0) := heap_start L m (by omega) hheap
  have HP : Hid ((L.getD 0 0 :: (L.set 0 (L.getD m 0)).take m).Perm (L.take (m + 1))) := pop_perm L m (by omega)
  have hrow1 := hrow.set 0 (L.getD m 0)
  have HL1 : Hid ((L.set 0 (L.getD m 0)).length = cap) := by show (L.set 0 (L.getD m 0)).length = cap; rw [List.length_set]; exact hL
  have hbut := (But.refl g d w).setCell ⟨g, 0, none⟩ (.inl rfl) (.int .i32 (L.getD m 0))
  obtain ⟨x, hx⟩ : ∃ x, x = L.getD 0 0 := ⟨_, rfl⟩
  obtain ⟨y, hy⟩ : ∃ y, y = L.getD m 0 := ⟨_, rfl⟩
  rw [← hx] at h0 HP ⊢
  rw [← hy] at hlast HB HP hrow1 HL1 hbut
  clear hx hy hheap
  have HL : Hid (L.length = cap) := hL
  clear hL hrow
  have hmm : ((m : Int) + 1 - 1) = (m : Int) := by omega
  have hdc0 : (w.setCell ⟨g, 0, none⟩ (.int .i32 y)).cell? ⟨d, 0, none⟩ = some (.slice (some ⟨g, 0, none⟩) (m + 1) cap) := by
    rw [cell_other hdg]; exact hd
  have HDC : Hid ((w.setCell ⟨g, 0, none⟩ (.int .i32 y)).cell? ⟨d, 0, none⟩ = some (.slice (some ⟨g, 0, none⟩) (m + 1) cap)) := hdc0
  clear hdc0
  go_enter Try.func23, Try.ntmps23
  go_wp2
  go_loopw [6] (fun iv wr => ∃ (i : Nat) (M : List Int), iv = .int .i64 i ∧ i ≤ cap ∧ Hid (M.length = cap) ∧ Hid (HeapBut M m i) ∧ Hid ((x :: M.take m).Perm (L.take (m + 1))) ∧ Row wr g M ∧ wr.cell? ⟨d, 0, none⟩ = some (.slice (some ⟨g, 0, none⟩) (m + 1) cap) ∧ wr.frozen? ⟨d, 0, none⟩ = false ∧ But g d w wr) (fun iv _ => m - (intOf iv).toNat)
  case atStart => exact ⟨0, _, rfl, Nat.zero_le _, HL1, HB, HP, hrow1, HDC.out, by simpa using hdf, hbut⟩
  case round =>
    clear HL1 HB HP hrow1 HDC hdf hbut h0 hlast hf0 hd
    obtain ⟨i, M, rfl, hi, HM, HB, HP, hrow, hdc, hdf, hbut⟩ := hrel
    obtain ⟨c0, hc0⟩ : ∃ c0 : Nat, 2 * (i : Int) + 1 = (c0 : Int) := ⟨2 * i + 1, by simp⟩
    obtain ⟨c1, hc1⟩ : ∃ c1 : Nat, (c0 : Int) + 1 = (c1 : Int) := ⟨c0 + 1, by simp⟩
    by_cases hend : m ≤ c0
    · have dE : decide (m ≤ c0) = true := decide_eq_true hend
      have HN : Hid (HeapN M m) := heap_done M m i HB.out (fun j _ _ _ => by omega)
      clear HB
      go_wp2
      go_ret
      exact ⟨rfl, M, HM.out, HN.out, HP.out, hrow.other ⟨d, 0, none⟩ _ (fun h => hdg h.symm), World.cell?_setCell_same _ _ _ hdc, hbut.setCell ⟨d, 0, none⟩ (.inr rfl) _⟩
    · have dE : decide (m ≤ c0) = false := decide_eq_false hend
      have hxi := hrow.cell i (by rw [HM.out]; omega)
      have hx0 := hrow.cell c0 (by rw [HM.out]; omega)
      have hfi := hrow.frozen i
      have hfc := hrow.frozen c0
      obtain ⟨zi, hzi⟩ : ∃ zi, zi = M.getD i 0 := ⟨_, rfl⟩
      obtain ⟨z0, hz0⟩ : ∃ z0, z0 = M.getD c0 0 := ⟨_, rfl⟩
      rw [← hzi] at hxi
      rw [← hz0] at hx0
      have HZI : Hid (zi = M.getD i 0) := hzi
      have HZC : Hid (z0 = M.getD c0 0) := hz0
      clear hzi hz0
      by_cases h1 : c1 < m
      · have d1 : decide (c1 < m) = true := decide_eq_true h1
        have hx1 := hrow.cell c1 (by rw [HM.out]; omega)
        have hfc1 := hrow.frozen c1
        obtain ⟨z1, hz1⟩ : ∃ z1, z1 = M.getD c1 0 := ⟨_, rfl⟩
        rw [← hz1] at hx1
        have HZ0 := HZC
        have HZ1 : Hid (z1 = M.getD c1 0) := hz1
        clear hz1
        by_cases hlt : z1 < z0
        · have HMIN : Hid (∀ j, 1 ≤ j → j < m → (j - 1) / 2 = i → z1 ≤ M.getD j 0) := by
            intro j j1 j2 j3
            rcases (show j = c0 ∨ j = c1 by omega) with e | e
            · rw [e, ← HZ0.out]; omega
            · rw [e, ← HZ1.out]; omega
          clear HZC
          have HZC := HZ1
          clear HZ0 HZ1
          have hcp : (c1 - 1) / 2 = i := by omega
          by_cases hle : zi ≤ z1
          · have HN : Hid (HeapN M m) := heap_done M m i HB.out (fun j j1 j2 j3 => by have := HMIN.out j j1 j2 j3; rw [← HZI.out]; omega)
            clear HMIN HB HZI HZC
            go_wp2
            go_quiet (fail)
            go_wp2
            go_quiet (fail)
            go_wp2
            go_ret
            exact ⟨rfl, M, HM.out, HN.out, HP.out, hrow.other ⟨d, 0, none⟩ _ (fun h => hdg h.symm), World.cell?_setCell_same _ _ _ hdc, (hbut.drewN _).setCell ⟨d, 0, none⟩ (.inr rfl) _⟩
          · have HB2 : Hid (HeapBut (swp M i c1) m c1) := heap_swap M m i c1 HB.out (by rw [HM.out]; omega) (by omega) (by omega) hcp (by rw [← HZC.out, ← HZI.out]; omega) (fun j j1 j2 j3 => by rw [← HZC.out]; exact HMIN.out j j1 j2 j3)
            have HP2 : Hid ((x :: (swp M i c1).take m).Perm (L.take (m + 1))) := (List.Perm.cons x (swp_perm M i c1 m (by omega) (by omega) (by rw [HM.out]; omega))).trans HP.out
            have hrow2 : Row ((wr.setCell ⟨g, i, none⟩ (.int .i32 z1)).setCell ⟨g, c1, none⟩ (.int .i32 zi)) g (swp M i c1) := by
              unfold swp; rw [← HZC.out, ← HZI.out]; exact (hrow.set i z1).set c1 zi
            have hbut2 := (hbut.setCell ⟨g, i, none⟩ (.inl rfl) (.int .i32 z1)).setCell ⟨g, c1, none⟩ (.inl rfl) (.int .i32 zi)
            have hdc2 : ((wr.setCell ⟨g, i, none⟩ (.int .i32 z1)).setCell ⟨g, c1, none⟩ (.int .i32 zi)).cell? ⟨d, 0, none⟩ = some (.slice (some ⟨g, 0, none⟩) (m + 1) cap) := by
              rw [cell_other hdg, cell_other hdg]; exact hdc
            have hdf2 : ((wr.setCell ⟨g, i, none⟩ (.int .i32 z1)).setCell ⟨g, c1, none⟩ (.int .i32 zi)).frozen? ⟨d, 0, none⟩ = false := by simpa using hdf
            have HM2 : Hid ((swp M i c1).length = cap) := by show (swp M i c1).length = cap; rw [swp_length]; exact HM.out
            clear HMIN HB HZI HZC HP HM hrow hbut
            go_wp2
            go_quiet (fail)
            go_wp2
            go_quiet (fail)
            go_wp2
            go_region
            all_goals
              go_wp2
              go_roundw
              case rel => exact ⟨c1, swp M i c1, rfl, by omega, HM2, HB2, HP2, hrow2, hdc2, hdf2, ⟨hbut2.os, hbut2.tape, hbut2.output, hbut2.size, hbut2.block⟩⟩
              case measure => simp [intOf]; omega
        · have HMIN : Hid (∀ j, 1 ≤ j → j < m → (j - 1) / 2 = i → z0 ≤ M.getD j 0) := by
            intro j j1 j2 j3
            rcases (show j = c0 ∨ j = c1 by omega) with e | e
            · rw [e, ← HZ0.out]; omega
            · rw [e, ← HZ1.out]; omega
          clear HZ0 HZ1
          have hcp : (c0 - 1) / 2 = i := by omega
          by_cases hle : zi ≤ z0
          · have HN : Hid (HeapN M m) := heap_done M m i HB.out (fun j j1 j2 j3 => by have := HMIN.out j j1 j2 j3; rw [← HZI.out]; omega)
            clear HMIN HB HZI HZC
            go_wp2
            go_quiet (fail)
            go_wp2
            go_quiet (fail)
            go_wp2
            go_ret
            exact ⟨rfl, M, HM.out, HN.out, HP.out, hrow.other ⟨d, 0, none⟩ _ (fun h => hdg h.symm), World.cell?_setCell_same _ _ _ hdc, (hbut.drewN _).setCell ⟨d, 0, none⟩ (.inr rfl) _⟩
          · have HB2 : Hid (HeapBut (swp M i c0) m c0) := heap_swap M m i c0 HB.out (by rw [HM.out]; omega) (by omega) (by omega) hcp (by rw [← HZC.out, ← HZI.out]; omega) (fun j j1 j2 j3 => by rw [← HZC.out]; exact HMIN.out j j1 j2 j3)
            have HP2 : Hid ((x :: (swp M i c0).take m).Perm (L.take (m + 1))) := (List.Perm.cons x (swp_perm M i c0 m (by omega) (by omega) (by rw [HM.out]; omega))).trans HP.out
            have hrow2 : Row ((wr.setCell ⟨g, i, none⟩ (.int .i32 z0)).setCell ⟨g, c0, none⟩ (.int .i32 zi)) g (swp M i c0) := by
              unfold swp; rw [← HZC.out, ← HZI.out]; exact (hrow.set i z0).set c0 zi
            have hbut2 := (hbut.setCell ⟨g, i, none⟩ (.inl rfl) (.int .i32 z0)).setCell ⟨g, c0, none⟩ (.inl rfl) (.int .i32 zi)
            have hdc2 : ((wr.setCell ⟨g, i, none⟩ (.int .i32 z0)).setCell ⟨g, c0, none⟩ (.int .i32 zi)).cell? ⟨d, 0, none⟩ = some (.slice (some ⟨g, 0, none⟩) (m + 1) cap) := by
              rw [cell_other hdg, cell_other hdg]; exact hdc
            have hdf2 : ((wr.setCell ⟨g, i, none⟩ (.int .i32 z0)).setCell ⟨g, c0, none⟩ (.int .i32 zi)).frozen? ⟨d, 0, none⟩ = false := by simpa using hdf
            have HM2 : Hid ((swp M i c0).length = cap) := by show (swp M i c0).length = cap; rw [swp_length]; exact HM.out
            clear HMIN HB HZI HZC HP HM hrow hbut
            go_wp2
            go_quiet (fail)
            go_wp2
            go_quiet (fail)
            go_wp2
            go_region
            all_goals
              go_wp2
              go_roundw
              case rel => exact ⟨c0, swp M i c0, rfl, by omega, HM2, HB2, HP2, hrow2, hdc2, hdf2, ⟨hbut2.os, hbut2.tape, hbut2.output, hbut2.size, hbut2.block⟩⟩
              case measure => simp [intOf]; omega
      · have d1 : decide (c1 < m) = false := decide_eq_false h1
        have HMIN : Hid (∀ j, 1 ≤ j → j < m → (j - 1) / 2 = i → z0 ≤ M.getD j 0) := by
          intro j j1 j2 j3
          rw [show j = c0 by omega, ← HZC.out]; omega
        have hcp : (c0 - 1) / 2 = i := by omega
        by_cases hle : zi ≤ z0
        · have HN : Hid (HeapN M m) := heap_done M m i HB.out (fun j j1 j2 j3 => by have := HMIN.out j j1 j2 j3; rw [← HZI.out]; omega)
          clear HMIN HB HZI HZC
          go_wp2
          go_quiet (fail)
          go_wp2
          go_quiet (fail)
          go_wp2
          go_ret
          exact ⟨rfl, M, HM.out, HN.out, HP.out, hrow.other ⟨d, 0, none⟩ _ (fun h => hdg h.symm), World.cell?_setCell_same _ _ _ hdc, (hbut.drewN _).setCell ⟨d, 0, none⟩ (.inr rfl) _⟩
        · have HB2 : Hid (HeapBut (swp M i c0) m c0) := heap_swap M m i c0 HB.out (by rw [HM.out]; omega) (by omega) (by omega) hcp (by rw [← HZC.out, ← HZI.out]; omega) (fun j j1 j2 j3 => by rw [← HZC.out]; exact HMIN.out j j1 j2 j3)
          have HP2 : Hid ((x :: (swp M i c0).take m).Perm (L.take (m + 1))) := (List.Perm.cons x (swp_perm M i c0 m (by omega) (by omega) (by rw [HM.out]; omega))).trans HP.out
          have hrow2 : Row ((wr.setCell ⟨g, i, none⟩ (.int .i32 z0)).setCell ⟨g, c0, none⟩ (.int .i32 zi)) g (swp M i c0) := by
            unfold swp; rw [← HZC.out, ← HZI.out]; exact (hrow.set i z0).set c0 zi
          have hbut2 := (hbut.setCell ⟨g, i, none⟩ (.inl rfl) (.int .i32 z0)).setCell ⟨g, c0, none⟩ (.inl rfl) (.int .i32 zi)
          have hdc2 : ((wr.setCell ⟨g, i, none⟩ (.int .i32 z0)).setCell ⟨g, c0, none⟩ (.int .i32 zi)).cell? ⟨d, 0, none⟩ = some (.slice (some ⟨g, 0, none⟩) (m + 1) cap) := by
            rw [cell_other hdg, cell_other hdg]; exact hdc
          have hdf2 : ((wr.setCell ⟨g, i, none⟩ (.int .i32 z0)).setCell ⟨g, c0, none⟩ (.int .i32 zi)).frozen? ⟨d, 0, none⟩ = false := by simpa using hdf
          have HM2 : Hid ((swp M i c0).length = cap) := by show (swp M i c0).length = cap; rw [swp_length]; exact HM.out
          clear HMIN HB HZI HZC HP HM hrow hbut
          go_wp2
          go_quiet (fail)
          go_wp2
          go_quiet (fail)
          go_wp2
          go_region
          all_goals
            go_wp2
            go_roundw
            case rel => exact ⟨c0, swp M i c0, rfl, by omega, HM2, HB2, HP2, hrow2, hdc2, hdf2, ⟨hbut2.os, hbut2.tape, hbut2.output, hbut2.size, hbut2.block⟩⟩
            case measure => simp [intOf]; omega

set_option maxHeartbeats 1600000 in
theorem zzpop_any (g m cap : Nat) (L : List Int) (w : World) (hcap : cap ≤ 1048576) (hm : m + 1 ≤ cap) (hL : L.length = cap) (hheap : HeapN L (m + 1)) (hrow : Row w g L) :
    Calls Try.prog 11 #[.slice (some ⟨g, 0, none⟩) (m + 1) cap] w fun e w' => e = .returned (.tuple #[.slice (some ⟨g, 0, none⟩) m cap, .int .i32 (L.getD 0 0)]) ∧ ∃ M : List Int, M.length = cap ∧ HeapN M m ∧ (L.getD 0 0 :: M.take m).Perm (L.take (m + 1)) ∧
      Row w' g M ∧ w.grownBy w' (some g) := by
  have hlt := hrow.lt
  have HL : Hid (L.length = cap) := hL
  clear hL
  go_enter Try.func11, Try.ntmps11
  go_wp2_with fail
  refine (pop_any w.heap.size g m cap L _ hcap hm HL.out (by omega) hheap (by simp) (by simp) (hrow.alloc _)).mono ?_
  rintro e w1 ⟨rfl, M, h1, h2, h3, h4, h5, h6⟩
  have HM : Hid (M.length = cap) := h1
  clear h1
  go_wp2_with fail
  go_ret2
  refine ⟨rfl, M, HM.out, h2, h3, h4, ?_⟩
  have hs := h6.size
  simp at hs
  exact ⟨h6.os, h6.tape, h6.output, by omega, fun k hk hne => by
    rw [h6.block k (by simp; omega) (fun e => hne (by rw [e])) (by omega)]
    exact Below.heap_alloc _ _ _ hk⟩

end Go.Proofs.Qxb6602066a
