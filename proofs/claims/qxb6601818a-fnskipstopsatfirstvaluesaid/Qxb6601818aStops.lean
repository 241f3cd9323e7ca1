/-
  SEAT b6601818a: the walk of FnSkipStopsAtFirstValue (function 6).
-/
import Derived.Test.Qxb6601818aSkip
namespace Go.Proofs.Qxb6601818a
open Go.RowKit

theorem Rd.len6 {k : IntKind} {w : World} {ao : Option Addr} {n cap : Nat} {zs : List Int} (h : Rd k w (.slice ao n cap) zs) : n = zs.length ∧ n ≤ cap ∧ cap ≤ 9223372036854775807 := by
  obtain ⟨ao', cap', hv, h1, h2, _, _⟩ := h
  simp only [Value.slice.injEq] at hv
  obtain ⟨rfl, rfl, rfl⟩ := hv
  exact ⟨rfl, h1, by simpa [maxLen] using h2⟩

set_option maxHeartbeats 3200000 in
set_option maxRecDepth 100000 in
theorem stops_any (a0 : Option Addr) (cap0 : Nat) (zs : List Int) (a1 : Option Addr) (cap1 : Nat) (ys : List Int) (a2 : Int) (w : World) (hrd : Rd .u8 w (.slice a0 zs.length cap0) zs) (hrd1 : Rd .i64 w (.slice a1 ys.length cap1) ys)
    (hlo : -9223372036854775808 ≤ a2) (hhi : a2 ≤ 9223372036854775807) :
    Calls Try.prog 6 #[.slice a0 zs.length cap0, .slice a1 ys.length cap1, .int .i64 a2] w fun e w' => e = .returned (.bool true) ∧ Below w.heap.size w w' := by
  have hz := hrd.len6
  have hy := hrd1.len6
  by_cases hn : zs.length + ys.length ≤ 1048576
  · by_cases hn2 : ys.length ≤ 131072 ∧ zs.length + 8 * ys.length ≤ 1048576
    · obtain ⟨hn2, hn3⟩ := hn2
      by_cases hneg : a2 < 0
      · go_enter Try.func6, Try.ntmps6
        go_wp2_with fail
        refine (bytes14 _ _ _ _ _ _ _ _ (by omega)).mono ?_
        rintro e w' ⟨rfl, rfl⟩
        go_wp2_with fail
        go_ret
        exact ⟨rfl, Below.refl _ _⟩
      · obtain ⟨o, rfl⟩ : ∃ o : Nat, a2 = (o : Int) := ⟨a2.toNat, by omega⟩
        have hzn : zs.length ≤ 1048576 := by omega
        have d1 : decide ((1048576 : Int) < (zs.length : Int)) = false := decide_eq_false (by omega)
        have d2 : decide ((131072 : Int) < (ys.length : Int)) = false := decide_eq_false (by omega)
        have d3 : decide ((1048576 : Int) < (zs.length : Int) + 8 * (ys.length : Int)) = false := decide_eq_false (by omega)
        have d4 : decide ((o : Int) < 0) = false := decide_eq_false (by omega)
        go_enter Try.func6, Try.ntmps6
        go_wp2_with fail
        refine (bytes14 _ _ _ _ _ _ _ _ (by omega)).mono ?_
        rintro e w' ⟨rfl, rfl⟩
        go_wp2_with fail
        refine (clone_any _ zs _ (by omega) hrd).mono ?_
        rintro e w1 ⟨v1, rfl, hD1, hb1⟩
        go_wp2_with fail
        refine (clonei_any _ ys _ (by omega) (hrd1.below hb1)).mono ?_
        rintro e w2 ⟨v2, rfl, hL2, hb2⟩
        have hbel2 : Below w.heap.size w w2 := hb1.trans (hb2.mono hb1.size)
        have hD2 := hD1.below hb2
        obtain ⟨aD, cD, rfl, _, _, _, _⟩ := id hD2
        obtain ⟨aL, cL, rfl, _, _, _, _⟩ := id hL2
        clear hb1 hb2 hD1 hL2 hrd hrd1
        go_wp2_with fail
        refine (zzskip_any aD zs.length cD aL ys.length cL o zs _ rfl hzn (by omega) hD2).mono ?_
        rintro e w3 ⟨rfl, hb3⟩
        have hbel3 : Below w.heap.size w w3 := hbel2.trans (hb3.mono hbel2.size)
        have hD3 := hD2.below hb3
        clear hbel2 hb3 hD2
        by_cases hpast : zs.length ≤ o
        · have HP : Hid (skF zs o = o) := skF_past zs o (by omega)
          go_wp2_with fail
          go_ret
          exact ⟨ret_bool (by rw [HP.out]; simp), hbel3⟩
        · obtain ⟨hq1, hq2⟩ := skF_le zs o (by omega)
          obtain ⟨q, hq⟩ : ∃ q, q = skF zs o := ⟨_, rfl⟩
          have HQ : Hid (q = o + skp (zs.drop o) false) := hq
          rw [← hq] at hq1 hq2 ⊢
          clear hq
          obtain ⟨aD', cD', hv, _, _, _, hD⟩ := hD3
          simp only [Value.slice.injEq, true_and] at hv
          obtain ⟨rfl, rfl⟩ := hv
          obtain ⟨b, off, rfl, hc⟩ := hD (by omega)
          have HC : Hid (∀ i, i < zs.length → w3.cell? ⟨b, off + i, none⟩ = some (.int .u8 (zs.getD i 0))) := hc
          have d5 : decide ((zs.length : Int) ≤ (o : Int)) = false := decide_eq_false (by omega)
          have d6 : decide (q < o) = false := decide_eq_false (by omega)
          have d7 : decide (zs.length < q) = false := decide_eq_false (by omega)
          clear hc hD
          go_wp2_with fail
          go_loop [8, 9, 10] (fun h l i => ∃ (p : Nat) (hh ll : Int), o ≤ p ∧ p ≤ q ∧ i = .int .i64 p ∧ h = .int .i64 hh ∧ l = .int .i64 ll ∧ -1 ≤ hh ∧ hh < p ∧ -1 ≤ ll ∧ ll < p ∧ Hid (q = p + skp (zs.drop p) (decide (ll < hh)))) (fun _ _ i => q - (intOf i).toNat)
          case atStart => exact ⟨o, -1, -1, by omega, by omega, rfl, rfl, rfl, by omega, by omega, by omega, by omega, HQ⟩
          case round =>
            clear HQ
            obtain ⟨p, hh, ll, hp1, hp2, rfl, rfl, rfl, h1, h2, h3, h4, H⟩ := hrel
            by_cases hlt : p < q
            · have hcp := HC.out p (by omega)
              obtain ⟨c, hcd⟩ : ∃ c, c = zs.getD p 0 := ⟨_, rfl⟩
              rw [← hcd] at hcp
              have HZ : Hid (zs.getD p 0 = c) := hcd.symm
              clear hcd
              have hpz : p < zs.length := by omega
              by_cases hs1 : ll < hh
              · have H1 : q = p + skp (zs.drop p) true := by have h := H.out; rwa [decide_eq_true hs1] at h
                by_cases h35 : c = 35
                · subst h35
                  have HN : Hid (q = p + 1 + skp (zs.drop (p + 1)) (decide (ll < (p : Int)))) := by
                    rw [skp_in zs p hpz (by rw [HZ.out]; decide)] at H1
                    show q = p + 1 + skp (zs.drop (p + 1)) (decide (ll < (p : Int)))
                    rw [decide_eq_true h4]; omega
                  have hs : sepB 35 = false := by decide
                  clear H H1
                  go_wp2_with (go_at_call 17; refine (sep_any _ _).mono ?_; rintro e w4 ⟨rfl, rfl⟩)
                  go_round
                  case rel => exact ⟨p + 1, p, ll, by omega, by omega, by go_num, rfl, rfl, by omega, by omega, by omega, by omega, HN⟩
                  case measure => simp [intOf]; omega
                · have e35 : (c == 35) = false := by simpa using h35
                  by_cases h10 : c = 10
                  · subst h10
                    have HN : Hid (q = p + 1 + skp (zs.drop (p + 1)) (decide ((p : Int) < hh))) := by
                      rw [skp_in_nl zs p hpz HZ.out] at H1
                      show q = p + 1 + skp (zs.drop (p + 1)) (decide ((p : Int) < hh))
                      rw [decide_eq_false (by omega)]; omega
                    have hs : sepB 10 = true := by decide
                    clear H H1 h35
                    go_wp2_with (go_at_call 17; refine (sep_any _ _).mono ?_; rintro e w4 ⟨rfl, rfl⟩)
                    go_round
                    case rel => exact ⟨p + 1, hh, p, by omega, by omega, by go_num, rfl, rfl, by omega, by omega, by omega, by omega, HN⟩
                    case measure => simp [intOf]; omega
                  · have e10 : (c == 10) = false := by simpa using h10
                    have HN : Hid (q = p + 1 + skp (zs.drop (p + 1)) (decide (ll < hh))) := by
                      rw [skp_in zs p hpz (by rw [HZ.out]; exact h10)] at H1
                      show q = p + 1 + skp (zs.drop (p + 1)) (decide (ll < hh))
                      rw [decide_eq_true hs1]; omega
                    clear H H1 h35 h10
                    by_cases hs : sepB c = true
                    · go_wp2_with (go_at_call 17; refine (sep_any _ _).mono ?_; rintro e w4 ⟨rfl, rfl⟩)
                      go_round
                      case rel => exact ⟨p + 1, hh, ll, by omega, by omega, by go_num, rfl, rfl, by omega, by omega, by omega, by omega, HN⟩
                      case measure => simp [intOf]; omega
                    · have hsf : sepB c = false := by simpa using hs
                      clear hs
                      go_wp2_with (go_at_call 17; refine (sep_any _ _).mono ?_; rintro e w4 ⟨rfl, rfl⟩)
                      go_round
                      case rel => exact ⟨p + 1, hh, ll, by omega, by omega, by go_num, rfl, rfl, by omega, by omega, by omega, by omega, HN⟩
                      case measure => simp [intOf]; omega
              · have H1 : q = p + skp (zs.drop p) false := by have h := H.out; rwa [decide_eq_false hs1] at h
                by_cases h35 : c = 35
                · subst h35
                  have HN : Hid (q = p + 1 + skp (zs.drop (p + 1)) (decide (ll < (p : Int)))) := by
                    rw [skp_hash zs p hpz HZ.out] at H1
                    show q = p + 1 + skp (zs.drop (p + 1)) (decide (ll < (p : Int)))
                    rw [decide_eq_true h4]; omega
                  have hs : sepB 35 = false := by decide
                  clear H H1
                  go_wp2_with (go_at_call 17; refine (sep_any _ _).mono ?_; rintro e w4 ⟨rfl, rfl⟩)
                  go_round
                  case rel => exact ⟨p + 1, p, ll, by omega, by omega, by go_num, rfl, rfl, by omega, by omega, by omega, by omega, HN⟩
                  case measure => simp [intOf]; omega
                · have e35 : (c == 35) = false := by simpa using h35
                  by_cases hs : sepB c = true
                  · by_cases h10 : c = 10
                    · subst h10
                      have HN : Hid (q = p + 1 + skp (zs.drop (p + 1)) (decide ((p : Int) < hh))) := by
                        rw [skp_sep zs p hpz (by rw [HZ.out]; exact hs)] at H1
                        show q = p + 1 + skp (zs.drop (p + 1)) (decide ((p : Int) < hh))
                        rw [decide_eq_false (by omega)]; omega
                      clear H H1 h35
                      go_wp2_with (go_at_call 17; refine (sep_any _ _).mono ?_; rintro e w4 ⟨rfl, rfl⟩)
                      go_round
                      case rel => exact ⟨p + 1, hh, p, by omega, by omega, by go_num, rfl, rfl, by omega, by omega, by omega, by omega, HN⟩
                      case measure => simp [intOf]; omega
                    · have e10 : (c == 10) = false := by simpa using h10
                      have HN : Hid (q = p + 1 + skp (zs.drop (p + 1)) (decide (ll < hh))) := by
                        rw [skp_sep zs p hpz (by rw [HZ.out]; exact hs)] at H1
                        show q = p + 1 + skp (zs.drop (p + 1)) (decide (ll < hh))
                        rw [decide_eq_false hs1]; omega
                      clear H H1 h35 h10
                      go_wp2_with (go_at_call 17; refine (sep_any _ _).mono ?_; rintro e w4 ⟨rfl, rfl⟩)
                      go_round
                      case rel => exact ⟨p + 1, hh, ll, by omega, by omega, by go_num, rfl, rfl, by omega, by omega, by omega, by omega, HN⟩
                      case measure => simp [intOf]; omega
                  · exfalso
                    rw [skp_stop zs p hpz (by rw [HZ.out]; exact hs) (by rw [HZ.out]; exact h35)] at H1
                    omega
            · have hpq : p = q := by omega
              by_cases hql : q < zs.length
              · have hs1 : ¬ ll < hh := by
                  intro hs1
                  have h := H.out
                  rw [decide_eq_true hs1, hpq] at h
                  by_cases h10 : zs.getD q 0 = 10
                  · rw [skp_in_nl zs q hql h10] at h; omega
                  · rw [skp_in zs q hql h10] at h; omega
                have H1 : q = q + skp (zs.drop q) false := by have h := H.out; rwa [decide_eq_false hs1, hpq] at h
                have h35 : ¬ zs.getD q 0 = 35 := by
                  intro h
                  rw [skp_hash zs q hql h] at H1; omega
                have hs : ¬ sepB (zs.getD q 0) = true := by
                  intro h
                  rw [skp_sep zs q hql h] at H1; omega
                have hcp := HC.out q hql
                obtain ⟨c, hcd⟩ : ∃ c, c = zs.getD q 0 := ⟨_, rfl⟩
                rw [← hcd] at hcp h35 hs
                have e35 : (c == 35) = false := by simpa using h35
                have hsf : sepB c = false := by simpa using hs
                have hqe : ((q : Int) == (zs.length : Int)) = false := by simp; omega
                have hdd : decide (ll < hh) = false := decide_eq_false hs1
                clear H H1 h35 hs hcd hpq
                go_wp2_with fail
                refine (sep_any _ _).mono ?_
                rintro e w4 ⟨rfl, rfl⟩
                go_wp2_with fail
                go_ret
                exact ⟨rfl, hbel3⟩
              · have hqe : ((q : Int) == (zs.length : Int)) = true := by simp; omega
                clear H hpq
                go_wp2_with fail
                go_ret
                exact ⟨rfl, hbel3⟩
    · by_cases hn4 : ys.length ≤ 131072
      · have hn5 : 1048576 < zs.length + 8 * ys.length := by omega
        clear hn2
        go_enter Try.func6, Try.ntmps6
        go_wp2_with fail
        refine (bytes14 _ _ _ _ _ _ _ _ (by omega)).mono ?_
        rintro e w' ⟨rfl, rfl⟩
        go_wp2_with fail
        go_ret
        exact ⟨rfl, Below.refl _ _⟩
      · clear hn2
        go_enter Try.func6, Try.ntmps6
        go_wp2_with fail
        refine (bytes14 _ _ _ _ _ _ _ _ (by omega)).mono ?_
        rintro e w' ⟨rfl, rfl⟩
        go_wp2_with fail
        go_ret
        exact ⟨rfl, Below.refl _ _⟩
  · go_enter Try.func6, Try.ntmps6
    go_wp2_with fail
    refine (bytes14_any _ _ _ _ _ _ _ _ (by omega) (by omega) (by omega)).mono ?_
    rintro e w' ⟨rfl, rfl⟩
    go_wp2_with fail
    go_ret
    exact ⟨rfl, Below.refl _ _⟩

end Go.Proofs.Qxb6601818a
