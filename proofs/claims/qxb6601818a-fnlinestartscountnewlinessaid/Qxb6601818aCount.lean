/-
  SEAT b6601818a: the walk of FnLineStartsCountNewlines (function 5).
-/
import Derived.Test.Qxb6601818aLines
import Derived.WalkSmall
import Derived.Deep.QuietTactic
import Derived.BigQuiet
namespace Go.Proofs.Qxb6601818a
open Go.RowKit

set_option maxHeartbeats 1600000 in
set_option maxRecDepth 100000 in
theorem count_any (a0 : Option Addr) (cap0 : Nat) (zs : List Int) (w : World) (hrd : Rd .u8 w (.slice a0 zs.length cap0) zs) :
    Calls Try.prog 5 #[.slice a0 zs.length cap0] w fun e w' => e = .returned (.bool true) ∧ Below w.heap.size w w' := by
  by_cases hn : zs.length ≤ 1048576
  · go_enter Try.func5, Try.ntmps5
    go_wp2_with fail
    refine (bytes13 _ _ _ _ hn).mono ?_
    rintro e w' ⟨rfl, rfl⟩
    go_wp2_with fail
    refine (clone_any _ zs _ hn hrd).mono ?_
    rintro e w1 ⟨v1, rfl, hrd1, hb1⟩
    go_wp2_with fail
    refine (zzlines_any _ zs _ hn hrd1).mono ?_
    rintro e w2 ⟨v2, rfl, hrd2, hb2⟩
    have hbel : Below w.heap.size w w2 := hb1.trans (hb2.mono hb1.size)
    have hrdD := hrd1.below hb2
    obtain ⟨aD, cD, rfl, _, _, _, _⟩ := id hrdD
    obtain ⟨aR, cR, rfl, _, _, _, _⟩ := id hrd2
    have hle := LS_le zs zs.length
    clear hrd hrd1 hb1 hb2
    go_wp2
    go_loopw [4] (fun i wr => (∃ k : Nat, 1 ≤ k ∧ k ≤ (LS zs zs.length).length ∧ i = .int .i64 k) ∧ Below w.heap.size w wr ∧ Rd .u8 wr (.slice aD zs.length cD) zs ∧ Rd .i64 wr (.slice aR (LS zs zs.length).length cR) (LS zs zs.length)) (fun i _ => (LS zs zs.length).length - (intOf i).toNat)
    case atStart => exact ⟨⟨1, Nat.le_refl _, by omega, rfl⟩, hbel, hrdD, hrd2⟩
    case round =>
      clear hbel hrdD hrd2
      obtain ⟨⟨k, hk1, hk, rfl⟩, hbel, hrdD, hrdR⟩ := hrel
      obtain ⟨aR', cR', hv, _, _, _, hR⟩ := id hrdR
      simp only [Value.slice.injEq, true_and] at hv
      obtain ⟨rfl, rfl⟩ := hv
      obtain ⟨bR, oR, rfl, hcR⟩ := hR (by omega)
      by_cases hlt : k < (LS zs zs.length).length
      · have hc1 := hcR k hlt
        have hc2 := hcR (k - 1) (by omega)
        have hr := LS_rise zs zs.length (k - 1) (by omega)
        rw [show k - 1 + 1 = k by omega] at hr
        obtain ⟨x, hx⟩ : ∃ x, x = (LS zs zs.length).getD k 0 := ⟨_, rfl⟩
        obtain ⟨y, hy⟩ : ∃ y, y = (LS zs zs.length).getD (k - 1) 0 := ⟨_, rfl⟩
        rw [← hx] at hr hc1
        rw [← hy] at hr hc2
        have e1 : ((k : Int) - 1).toNat = k - 1 := by omega
        clear hx hy hcR hR
        go_wp2
        go_quiet (fail)
        go_wp2
        go_roundw
        case rel => exact ⟨⟨k + 1, by omega, by omega, by go_num⟩, below_drewN hbel _, hrdD.below (below_drewN (Below.refl _ _) _), hrdR.below (below_drewN (Below.refl _ _) _)⟩
        case measure => simp [intOf]; omega
      · clear hR
        obtain ⟨aD', cD', hv, _, _, _, hD⟩ := hrdD
        simp only [Value.slice.injEq, true_and] at hv
        obtain ⟨rfl, rfl⟩ := hv
        clear hrdR
        have HD : Hid (0 < zs.length → ∃ b off, aD = some ⟨b, off, none⟩ ∧ ∀ i, i < zs.length → wr.cell? ⟨b, off + i, none⟩ = some (.int .u8 (zs.getD i 0))) := hD
        have HR : Hid (∀ i, i < (LS zs zs.length).length → wr.cell? ⟨bR, oR + i, none⟩ = some (.int .i64 ((LS zs zs.length).getD i 0))) := hcR
        clear hD hcR
        go_wp2
        go_loop [5, 6, 7] (fun c k p => ∃ pn kn : Nat, pn ≤ zs.length + 1 ∧ p = .int .i64 pn ∧ k = .int .i64 kn ∧ c = .int .i64 ((LS zs pn).length - 1) ∧ kn ≤ (LS zs zs.length).length ∧ kn ≤ (LS zs pn).length ∧ (pn = zs.length + 1 → kn = (LS zs zs.length).length)) (fun _ _ p => zs.length + 1 - (intOf p).toNat)
        case atStart => exact ⟨0, 0, by omega, rfl, rfl, by simp [LS], by omega, by omega, fun h => by omega⟩
        case round =>
          obtain ⟨pn, kn, hp, rfl, rfl, rfl, hk2, hk3, hk4⟩ := hrel
          have hlp := LS_le zs pn
          by_cases hpl : pn ≤ zs.length
          · have hpre := LS_pre_le zs pn zs.length hpl
            clear hk4
            go_wp2
            go_loop [6] (fun k => ∃ kn : Nat, k = .int .i64 kn ∧ kn ≤ (LS zs pn).length) (fun k => (LS zs pn).length - (intOf k).toNat)
            case atStart => exact ⟨kn, rfl, hk3⟩
            case round =>
              clear hk2 hk3
              obtain ⟨km, rfl, hkm⟩ := hrel
              by_cases hkl : km < (LS zs pn).length
              · have hs := LS_small zs pn zs.length km hpl hkl
                have hcr := HR.out km (by omega)
                obtain ⟨x, hx⟩ : ∃ x, x = (LS zs zs.length).getD km 0 := ⟨_, rfl⟩
                rw [← hx] at hs hcr
                clear hx
                go_wp2
                go_round
                case rel => exact ⟨km + 1, by go_num, by omega⟩
                case measure => simp [intOf]; omega
              · have hkp : km = (LS zs pn).length := by omega
                have hguard : km < (LS zs zs.length).length → (pn : Int) < (LS zs zs.length).getD km 0 := fun h => LS_large zs pn zs.length km hpl (by omega) h
                have hne : ((km : Int) - 1 != ((LS zs pn).length : Int) - 1) = false := by rw [hkp]; simp
                have HK : Hid (km = (LS zs pn).length) := hkp
                clear hkp
                by_cases hin : km < (LS zs zs.length).length
                · have hcr := HR.out km hin
                  have hlg := hguard hin
                  obtain ⟨x, hx⟩ : ∃ x, x = (LS zs zs.length).getD km 0 := ⟨_, rfl⟩
                  rw [← hx] at hlg hcr
                  clear hx hguard
                  by_cases hpn : pn < zs.length
                  · obtain ⟨b, off, rfl, hc⟩ := HD.out (by omega)
                    have hcp := hc pn hpn
                    obtain ⟨c, hcd⟩ : ∃ c, c = zs.getD pn 0 := ⟨_, rfl⟩
                    rw [← hcd] at hcp
                    have HC : Hid (c = zs.getD pn 0) := hcd
                    clear hc hcd
                    by_cases h10 : c = 10
                    · have ht : (c == 10) = true := by simp [h10]
                      have HL : Hid (LS zs (pn + 1) = LS zs pn ++ [(pn : Int) + 1]) := LS_hit zs pn (by rw [← HC.out]; exact h10)
                      clear h10
                      go_wp2
                      go_round
                      case rel => exact ⟨pn + 1, km, by omega, by go_num, rfl, by rw [HL.out, List.length_append]; simp, by omega, by rw [HL.out, List.length_append]; have := HK.out; omega, fun h => by omega⟩
                      case measure => simp [intOf]; omega
                    · have ht : (c == 10) = false := by simp [h10]
                      have HL : Hid (LS zs (pn + 1) = LS zs pn) := LS_miss zs pn (by rw [← HC.out]; exact h10)
                      clear h10
                      go_wp2
                      go_round
                      case rel => exact ⟨pn + 1, km, by omega, by go_num, rfl, by rw [HL.out], by omega, by rw [HL.out]; have := HK.out; omega, fun h => by omega⟩
                      case measure => simp [intOf]; omega
                  · exfalso
                    have e : pn = zs.length := by omega
                    have := HK.out
                    rw [e] at this
                    omega
                · clear hguard
                  by_cases hpn : pn < zs.length
                  · obtain ⟨b, off, rfl, hc⟩ := HD.out (by omega)
                    have hcp := hc pn hpn
                    obtain ⟨c, hcd⟩ : ∃ c, c = zs.getD pn 0 := ⟨_, rfl⟩
                    rw [← hcd] at hcp
                    have HC : Hid (c = zs.getD pn 0) := hcd
                    clear hc hcd
                    by_cases h10 : c = 10
                    · have ht : (c == 10) = true := by simp [h10]
                      have HL : Hid (LS zs (pn + 1) = LS zs pn ++ [(pn : Int) + 1]) := LS_hit zs pn (by rw [← HC.out]; exact h10)
                      clear h10
                      go_wp2
                      go_round
                      case rel => exact ⟨pn + 1, km, by omega, by go_num, rfl, by rw [HL.out, List.length_append]; simp, by omega, by rw [HL.out, List.length_append]; have := HK.out; omega, fun h => by omega⟩
                      case measure => simp [intOf]; omega
                    · have ht : (c == 10) = false := by simp [h10]
                      have HL : Hid (LS zs (pn + 1) = LS zs pn) := LS_miss zs pn (by rw [← HC.out]; exact h10)
                      clear h10
                      go_wp2
                      go_round
                      case rel => exact ⟨pn + 1, km, by omega, by go_num, rfl, by rw [HL.out], by omega, by rw [HL.out]; have := HK.out; omega, fun h => by omega⟩
                      case measure => simp [intOf]; omega
                  · have e : pn = zs.length := by omega
                    have HL : Hid (LS zs (pn + 1) = LS zs pn) := by
                      show LS zs (pn + 1) = LS zs pn
                      rw [e]; exact LS_end zs
                    clear e
                    go_wp2
                    go_round
                    case rel => exact ⟨pn + 1, km, by omega, by go_num, rfl, by rw [HL.out], by omega, by rw [HL.out]; have := HK.out; omega, fun h => by omega⟩
                    case measure => simp [intOf]; omega
          · go_wp2
            go_ret
            exact ⟨by rw [hk4 (by omega)]; simp, hbel⟩
  · go_enter Try.func5, Try.ntmps5
    go_wp2_with fail
    refine (bytes13_no _ _ _ _ (by omega)).mono ?_
    rintro e w' ⟨rfl, rfl⟩
    go_wp2_with fail
    go_ret
    exact ⟨rfl, Below.refl _ _⟩

end Go.Proofs.Qxb6601818a
