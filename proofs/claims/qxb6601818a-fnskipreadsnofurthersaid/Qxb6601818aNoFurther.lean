/-
  SEAT b6601818a: the walk of FnSkipReadsNoFurther (function 8).
-/
import Derived.Test.Qxb6601818aSkip
namespace Go.Proofs.Qxb6601818a
open Go.RowKit

theorem Rd.len {k : IntKind} {w : World} {ao : Option Addr} {n cap : Nat} {zs : List Int} (h : Rd k w (.slice ao n cap) zs) : n = zs.length ∧ n ≤ cap ∧ cap ≤ 9223372036854775807 := by
  obtain ⟨ao', cap', hv, h1, h2, _, _⟩ := h
  simp only [Value.slice.injEq] at hv
  obtain ⟨rfl, rfl, rfl⟩ := hv
  exact ⟨rfl, h1, by simpa [maxLen] using h2⟩

set_option maxHeartbeats 1600000 in
set_option maxRecDepth 100000 in
theorem noFurther_any (a0 : Option Addr) (cap0 : Nat) (zs : List Int) (a1 : Option Addr) (cap1 : Nat) (ys : List Int) (a2 : Int) (w : World) (hrd : Rd .u8 w (.slice a0 zs.length cap0) zs) (hrd1 : Rd .i64 w (.slice a1 ys.length cap1) ys)
    (hlo : -9223372036854775808 ≤ a2) (hhi : a2 ≤ 9223372036854775807) :
    Calls Try.prog 8 #[.slice a0 zs.length cap0, .slice a1 ys.length cap1, .int .i64 a2] w fun e w' => e = .returned (.bool true) ∧ Below w.heap.size w w' := by
  have hz := hrd.len
  have hy := hrd1.len
  by_cases hn : zs.length + ys.length ≤ 1048576
  · by_cases hn2 : ys.length ≤ 131072 ∧ zs.length + 8 * ys.length ≤ 1048576
    · obtain ⟨hn2, hn3⟩ := hn2
      by_cases hneg : a2 < 0
      · go_enter Try.func8, Try.ntmps8
        go_wp2_with fail
        refine (bytes19 _ _ _ _ _ _ _ _ (by omega)).mono ?_
        rintro e w' ⟨rfl, rfl⟩
        go_wp2_with fail
        go_ret
        exact ⟨rfl, Below.refl _ _⟩
      · obtain ⟨o, rfl⟩ : ∃ o : Nat, a2 = (o : Int) := ⟨a2.toNat, by omega⟩
        have hzn : zs.length ≤ 1048576 := by omega
        go_enter Try.func8, Try.ntmps8
        go_wp2_with fail
        refine (bytes19 _ _ _ _ _ _ _ _ (by omega)).mono ?_
        rintro e w' ⟨rfl, rfl⟩
        go_wp2_with fail
        refine (clone_any _ zs _ (by omega) hrd).mono ?_
        rintro e w1 ⟨v1, rfl, hD1, hb1⟩
        go_wp2_with fail
        refine (clonei_any _ ys _ (by omega) (hrd1.below hb1)).mono ?_
        rintro e w2 ⟨v2, rfl, hL2, hb2⟩
        have hbel2 : Below w.heap.size w w2 := hb1.trans (hb2.mono hb1.size)
        have hD2 := hD1.below hb2
        obtain ⟨aD, cD, rfl, _, _, _, _⟩ := id hD2
        obtain ⟨aL, cL, rfl, _, _, _, _⟩ := id hL2
        have hcD := hD2.len
        clear hb1 hb2 hD1 hL2 hrd hrd1
        go_wp2_with fail
        refine (zzskip_any aD zs.length cD aL ys.length cL o zs _ rfl hzn (by omega) hD2).mono ?_
        rintro e w3 ⟨rfl, hb3⟩
        have hbel3 : Below w.heap.size w w3 := hbel2.trans (hb3.mono hbel2.size)
        have hD3 := hD2.below hb3
        clear hbel2 hb3 hD2
        by_cases hpast : zs.length < o
        · have HP : Hid (skF zs o = o) := skF_past zs o (by omega)
          go_wp2_with fail
          go_ret
          exact ⟨ret_bool (by rw [HP.out]; simp), hbel3⟩
        · obtain ⟨hq1, hq2⟩ := skF_le zs o (by omega)
          have HQ1 : Hid (skF (zs.take (skF zs o)) o = skF zs o) := skF_cut zs o (skF zs o) hq1 (Nat.le_refl _)
          have HQ2 : Hid (skF (zs.take (skF zs o + 1)) o = skF zs o) := skF_cut zs o (skF zs o + 1) (by omega) (by omega)
          obtain ⟨q, hq⟩ : ∃ q, q = skF zs o := ⟨_, rfl⟩
          rw [← hq] at HQ1 HQ2 hq1 hq2 ⊢
          clear hq
          go_wp2_with fail
          refine (zzskip_any aD q cD aL ys.length cL o (zs.take q) _ (by simp; omega) (by omega) (by omega) (hD3.taken hq2)).mono ?_
          rw [HQ1.out]
          rintro e w4 ⟨rfl, hb4⟩
          have hbel4 : Below w.heap.size w w4 := hbel3.trans (hb4.mono hbel3.size)
          have hD4 := hD3.below hb4
          clear hbel3 hb4 hD3
          by_cases hql : q < zs.length
          · go_wp2_with fail
            refine (zzskip_any aD (q + 1) cD aL ys.length cL o (zs.take (q + 1)) _ (by simp; omega) (by omega) (by omega) (hD4.taken hql)).mono ?_
            rw [HQ2.out]
            rintro e w5 ⟨rfl, hb5⟩
            have hbel5 : Below w.heap.size w w5 := hbel4.trans (hb5.mono hbel4.size)
            clear hbel4 hb5 hD4
            go_wp2_with fail
            go_ret
            exact ⟨rfl, hbel5⟩
          · go_wp2_with fail
            go_ret
            exact ⟨rfl, hbel4⟩
    · by_cases hn4 : ys.length ≤ 131072
      · have hn5 : 1048576 < zs.length + 8 * ys.length := by omega
        clear hn2
        go_enter Try.func8, Try.ntmps8
        go_wp2_with fail
        refine (bytes19 _ _ _ _ _ _ _ _ (by omega)).mono ?_
        rintro e w' ⟨rfl, rfl⟩
        go_wp2_with fail
        go_ret
        exact ⟨rfl, Below.refl _ _⟩
      · clear hn2
        go_enter Try.func8, Try.ntmps8
        go_wp2_with fail
        refine (bytes19 _ _ _ _ _ _ _ _ (by omega)).mono ?_
        rintro e w' ⟨rfl, rfl⟩
        go_wp2_with fail
        go_ret
        exact ⟨rfl, Below.refl _ _⟩
  · go_enter Try.func8, Try.ntmps8
    go_wp2_with fail
    refine (bytes19_any _ _ _ _ _ _ _ _ (by omega) (by omega) (by omega)).mono ?_
    rintro e w' ⟨rfl, rfl⟩
    go_wp2_with fail
    go_ret
    exact ⟨rfl, Below.refl _ _⟩

end Go.Proofs.Qxb6601818a
