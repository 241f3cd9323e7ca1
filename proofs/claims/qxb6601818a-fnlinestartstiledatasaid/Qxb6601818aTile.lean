/-
  SEAT b6601818a: the walk of FnLineStartsTileData (function 3).
-/
import Derived.Test.Qxb6601818aLines
namespace Go.Proofs.Qxb6601818a
open Go.RowKit

set_option maxHeartbeats 1600000 in
set_option maxRecDepth 100000 in
theorem tile_any (a0 : Option Addr) (cap0 : Nat) (zs : List Int) (w : World) (hrd : Rd .u8 w (.slice a0 zs.length cap0) zs) :
    Calls Try.prog 3 #[.slice a0 zs.length cap0] w fun e w' => e = .returned (.bool true) ∧ Below w.heap.size w w' := by
  by_cases hn : zs.length ≤ 1048576
  · go_enter Try.func3, Try.ntmps3
    go_wp2_with fail
    refine (bytes9 _ _ _ _ hn).mono ?_
    rintro e w' ⟨rfl, rfl⟩
    go_wp2_with fail
    refine (clone_any _ zs _ hn hrd).mono ?_
    rintro e w1 ⟨v1, rfl, hrd1, hb1⟩
    go_wp2_with fail
    refine (zzlines_any _ zs _ hn hrd1).mono ?_
    rintro e w2 ⟨v2, rfl, hrd2, hb2⟩
    have hbel : Below w.heap.size w w2 := hb1.trans (hb2.mono hb1.size)
    obtain ⟨aD, cD, rfl, _, _, _, hD⟩ := hrd1.below hb2
    obtain ⟨aR, cR, rfl, _, _, _, hR⟩ := hrd2
    have hle := LS_le zs zs.length
    obtain ⟨bR, oR, rfl, hcR⟩ := hR (by omega)
    have hc0 := hcR 0 (by omega)
    rw [LS_first] at hc0
    simp only [Nat.add_zero] at hc0
    have hl0 : ((LS zs zs.length).length : Int) ≠ 0 := by omega
    clear hrd hrd1 hb1 hb2 hR
    have hlen0 : (((LS zs zs.length).length : Int) == 0) = false := by simpa using hl0
    go_wp2
    go_loop [4] (fun i => ∃ k : Nat, k ≤ (LS zs zs.length).length ∧ i = .int .i64 k) (fun i => (LS zs zs.length).length - (intOf i).toNat)
    case atStart => exact ⟨0, Nat.zero_le _, rfl⟩
    case round =>
      obtain ⟨k, hk, rfl⟩ := hrel
      by_cases hlt : k < (LS zs zs.length).length
      · obtain ⟨hlo1, hlo2⟩ := LS_bd zs zs.length k hlt
        have hck := hcR k hlt
        obtain ⟨lo, hlo⟩ : ∃ lo : Nat, (LS zs zs.length).getD k 0 = (lo : Int) := ⟨_, (Int.toNat_of_nonneg hlo1).symm⟩
        rw [hlo] at hck hlo2
        by_cases hlast : k + 1 = (LS zs zs.length).length
        · have hB : ((k : Int) + 1 == ((LS zs zs.length).length : Int)) = true := by simp; omega
          have hgap : ∀ p : Nat, p < zs.length → lo ≤ p → ¬ zs.getD p 0 = 10 := fun p h1 h2 => LS_gap zs zs.length k p hlt h1 (by omega) (fun h => by omega)
          have HG : Hid (∀ p : Nat, p < zs.length → lo ≤ p → ¬ zs.getD p 0 = 10) := hgap
          have HD : Hid (0 < zs.length → ∃ b off, aD = some ⟨b, off, none⟩ ∧ ∀ i, i < zs.length → w2.cell? ⟨b, off + i, none⟩ = some (.int .u8 (zs.getD i 0))) := hD
          clear hgap hlo hlast hcR hc0 hl0 hD hlo1
          go_wp2
          go_loop [9] (fun i => ∃ p : Nat, lo ≤ p ∧ p ≤ zs.length ∧ i = .int .i64 p) (fun i => zs.length - (intOf i).toNat)
          case atStart => exact ⟨lo, Nat.le_refl _, by omega, rfl⟩
          case round =>
            obtain ⟨p, hp1, hp2, rfl⟩ := hrel
            by_cases hpl : p < zs.length
            · obtain ⟨b, off, rfl, hc⟩ := HD.out (by omega)
              have hcp := hc p hpl
              have h10 := HG.out p hpl hp1
              obtain ⟨c, hcd⟩ : ∃ c, c = zs.getD p 0 := ⟨_, rfl⟩
              rw [← hcd] at hcp h10
              have ht : (c == 10) = false := by simpa using h10
              clear hc hcd h10
              go_wp2
              go_round
              case rel => exact ⟨p + 1, by omega, by omega, by go_num⟩
              case measure => simp [intOf]; omega
            · go_wp2
              go_round
              case rel => exact ⟨k + 1, by omega, by go_num⟩
              case measure => simp [intOf]; omega
        · have hB : ((k : Int) + 1 == ((LS zs zs.length).length : Int)) = false := by simp; omega
          have hk1 : k + 1 < (LS zs zs.length).length := by omega
          obtain ⟨hhi1, hhi2⟩ := LS_bd zs zs.length (k + 1) hk1
          have hck1 := hcR (k + 1) hk1
          obtain ⟨hi, hhi⟩ : ∃ hi : Nat, (LS zs zs.length).getD (k + 1) 0 = (hi : Int) := ⟨_, (Int.toNat_of_nonneg hhi1).symm⟩
          have hrise := LS_rise zs zs.length k hk1
          have hnl := LS_nl zs zs.length k hk1
          have hgap : ∀ p : Nat, p < hi - 1 → lo ≤ p → ¬ zs.getD p 0 = 10 := fun p h1 h2 => LS_gap zs zs.length k p hlt (by omega) (by omega) (fun h => by omega)
          rw [hhi] at hck1 hhi2 hrise hnl
          rw [hlo] at hrise
          have hlh : lo < hi := by omega
          have hhn : hi ≤ zs.length := by omega
          rw [show ((hi : Int) - 1).toNat = hi - 1 by omega] at hnl
          have HG : Hid (∀ p : Nat, p < hi - 1 → lo ≤ p → ¬ zs.getD p 0 = 10) := hgap
          obtain ⟨b, off, rfl, hc⟩ := hD (by omega)
          have hcn := hc (hi - 1) (by omega)
          rw [hnl] at hcn
          have HD : Hid (∀ i, i < zs.length → w2.cell? ⟨b, off + i, none⟩ = some (.int .u8 (zs.getD i 0))) := hc
          have e1 : ((hi : Int) - 1).toNat = hi - 1 := by omega
          have hne : ((hi : Int) == (lo : Int)) = false := by simp; omega
          clear hgap hlo hlast hcR hc0 hl0 hD hlo1 hhi hrise hnl hc hhi1
          go_wp2
          go_loop [9] (fun i => ∃ p : Nat, lo ≤ p ∧ p ≤ hi - 1 ∧ i = .int .i64 p) (fun i => hi - (intOf i).toNat)
          case atStart => exact ⟨lo, Nat.le_refl _, by omega, rfl⟩
          case round =>
            obtain ⟨p, hp1, hp2, rfl⟩ := hrel
            by_cases hpl : p < hi - 1
            · have hcp := HD.out p (by omega)
              have h10 := HG.out p hpl hp1
              obtain ⟨c, hcd⟩ : ∃ c, c = zs.getD p 0 := ⟨_, rfl⟩
              rw [← hcd] at hcp h10
              have ht : (c == 10) = false := by simpa using h10
              clear hcd h10
              go_wp2
              go_round
              case rel => exact ⟨p + 1, by omega, by omega, by go_num⟩
              case measure => simp [intOf]; omega
            · go_wp2
              go_round
              case rel => exact ⟨k + 1, by omega, by go_num⟩
              case measure => simp [intOf]; omega
      · go_wp2
        go_ret
        exact ⟨rfl, hbel⟩
  · go_enter Try.func3, Try.ntmps3
    go_wp2_with fail
    refine (bytes9_no _ _ _ _ (by omega)).mono ?_
    rintro e w' ⟨rfl, rfl⟩
    go_wp2_with fail
    go_ret
    exact ⟨rfl, Below.refl _ _⟩

end Go.Proofs.Qxb6601818a
