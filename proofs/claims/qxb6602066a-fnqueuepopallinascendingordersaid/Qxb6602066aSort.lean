/-
  SEAT b6602066a: the contract of sortInt32 (function 12).
-/
import Derived.Test.Qxb6602066aRow
import Derived.Test.Qxb6602066aPlainSort
namespace Go.Proofs.Qxb6602066a
open Go.RowKit

set_option maxHeartbeats 6400000 in
set_option maxRecDepth 100000 in
theorem sort_any (a0 : Option Addr) (cap0 : Nat) (zs : List Int) (w : World) (hn : zs.length ≤ 262144) (hrd : Rd (Value.int .i32) 0 w (.slice a0 zs.length cap0) zs) :
    Calls Try.prog 12 #[.slice a0 zs.length cap0] w fun e w' => ∃ ss g, e = .returned (.slice (some ⟨g, 0, none⟩) zs.length zs.length) ∧ Row w' g ss ∧ ss.Perm zs ∧ Asc ss ∧ Below w.heap.size w w' := by
  obtain ⟨i0, hi, hz0, hz1, hz2⟩ := info_parts Try.info21
  obtain ⟨n, hnz⟩ : ∃ n, zs.length = n := ⟨_, rfl⟩
  rw [hnz] at hn ⊢
  have hrd' : Rd (Value.int .i32) 0 w (.slice a0 n cap0) zs := by rw [← hnz]; exact hrd
  clear hrd
  have HN : Hid (zs.length = n) := hnz
  clear hnz
  go_enter Try.func12, Try.ntmps12
  go_wp2_with (at_make; refine wpList_make_full _ rfl _ _ 22 rfl w.heap.size 21 i0 (.int .i32 0) 1 Try.underlying22 hi hz0 hz1 _ _ _ _ n rfl rfl rfl rfl ?b1 ?b2 ?b3 ?_)
  case b1 => rw [hz2]; omega
  case b2 => unfold maxLen; omega
  case b3 => exact Nat.le_refl _
  intro w1 hown hgrow
  have hbel1 : Below w.heap.size w w1 := (Below.refl _ _).grown hgrow (Nat.le_refl _) (fun k h => by cases h)
  have hrow1 : Row w1 w.heap.size (half zs 0) := by
    refine (Row.own (B := w.heap.size) (n := n) ?_).1
    rw [half_zero, HN.out]; simpa [Value.cells, toList_madeCells_one] using hown
  clear hown hgrow
  go_wp2
  go_loopw [5] (fun i wr => ∃ k : Nat, k ≤ n ∧ i = .int .i64 k ∧ Row wr w.heap.size (half zs k) ∧ Below w.heap.size w wr) (fun i _ => n - (intOf i).toNat)
  case atStart => exact ⟨0, Nat.zero_le _, rfl, hrow1, hbel1⟩
  case round =>
    clear hrow1 hbel1
    obtain ⟨k, hk, rfl, hrow, hbel⟩ := hrel
    by_cases hlt : k < n
    · have hkz : k < zs.length := by rw [HN.out]; exact hlt
      obtain ⟨b, off, rfl, hbw, hc⟩ := hrd'.at (by omega)
      have hck := hc k hkz
      rw [← hbel.cell (p := ⟨b, off + k, none⟩) hbw] at hck
      have hold := hrow.cell k (by rw [half_length zs k (by omega)]; exact hkz)
      have hfz := hrow.frozen k
      have hrow2 := hrow.set k (zs.getD k 0)
      rw [half_set zs k hkz] at hrow2
      have hbel2 := hbel.setCell (p := ⟨w.heap.size, k, none⟩) (Nat.le_refl _) (.int .i32 (zs.getD k 0))
      obtain ⟨c, hcd⟩ : ∃ c, c = zs.getD k 0 := ⟨_, rfl⟩
      rw [← hcd] at hck hrow2 hbel2
      clear hc hcd hrow hbel hkz
      go_wp2
      go_roundw
      case rel => exact ⟨k + 1, by omega, by go_num, hrow2, hbel2⟩
      case measure => simp [intOf]; omega
    · have hkn : k = n := by omega
      have hrow0 : Row wr w.heap.size zs := by
        have := half_all zs
        rw [HN.out] at this
        rw [hkn, this] at hrow
        exact hrow
      clear hrow hkn hrd' hk
      have hsz := hbel.size
      have hlt0 := hrow0.lt
      go_wp2_with (at_make; refine wpList_make_full _ rfl _ _ 22 rfl wr.heap.size 21 i0 (.int .i32 0) 1 Try.underlying22 hi hz0 hz1 _ _ _ _ n rfl rfl rfl rfl ?b4 ?b5 ?b6 ?_)
      case b4 => rw [hz2]; omega
      case b5 => unfold maxLen; omega
      case b6 => exact Nat.le_refl _
      intro w2 hown hgrow
      have hb2 : Below wr.heap.size wr w2 := (Below.refl _ _).grown hgrow (Nat.le_refl _) (fun k h => by cases h)
      have hrowT : Row w2 wr.heap.size (List.replicate n 0) := by
        refine (Row.own (B := wr.heap.size) (n := n) ?_).1
        simpa [Value.cells, toList_madeCells_one] using hown
      have hrowS : Row w2 w.heap.size zs := hrow0.below hb2 hlt0
      have hbel2 : Below w.heap.size w w2 := hbel.trans (hb2.mono hsz)
      clear hown hgrow hb2 hrow0 hbel
      go_wp2
      go_loopw [4, 6, 7] (fun s b v wr => ∃ (ga gb W : Nat) (S T : List Int), s = .slice (some ⟨ga, 0, none⟩) n n ∧ b = .slice (some ⟨gb, 0, none⟩) n n ∧ v = .int .i64 W ∧ ga ≠ gb ∧ w.heap.size ≤ ga ∧ w.heap.size ≤ gb ∧ 1 ≤ W ∧ W ≤ 524288 ∧
          Hid (S.length = n) ∧ Hid (T.length = n) ∧ Row wr ga S ∧ Row wr gb T ∧ S.Perm zs ∧ RunsTo S W n ∧ Below w.heap.size w wr) (fun _ _ v _ => n - (intOf v).toNat)
      case atStart => exact ⟨_, _, 1, zs, List.replicate n 0, rfl, rfl, rfl, by omega, Nat.le_refl _, hsz, Nat.le_refl _, by omega, HN, by show (List.replicate n (0 : Int)).length = n; simp, hrowS, hrowT, List.Perm.refl _, runs_one _ _, hbel2⟩
      case round =>
        clear hrowS hrowT hbel2 hsz hlt0 hlt
        obtain ⟨ga, gb, W, S, T, rfl, rfl, rfl, hne, hga, hgb, hW1, hW2, HS, HT, hrS, hrT, hpm, hrun, hbel⟩ := hrel
        by_cases hWn : W < n
        · go_wp2
          go_loopw [8] (fun lv wr => ∃ (c l : Nat) (T : List Int), lv = .int .i64 l ∧ Hid (l = c * (2 * W)) ∧ l ≤ 1048576 ∧ Hid (T.length = n) ∧ Row wr ga S ∧ Row wr gb T ∧ Hid (RunsTo T (2 * W) (min l n)) ∧ Hid ((T.take (min l n)).Perm (S.take (min l n))) ∧ Below w.heap.size w wr) (fun lv _ => n - (intOf lv).toNat)
          case atStart => exact ⟨0, 0, T, rfl, by show 0 = 0 * (2 * W); simp, by omega, HT, hrS, hrT, by show RunsTo _ _ _; intro c p q _ _ _ h; omega, by show List.Perm _ _; simp, hbel⟩
          case round =>
            clear hrS hrT hbel HT
            obtain ⟨c, l, T, rfl, HL, hl1, HT, hrS, hrT, HR0, HP0, hbel⟩ := hrel
            by_cases hln : l < n
            · have hmin0 : min l n = l := by omega
              have HR : Hid (RunsTo T (2 * W) l) := by have h := HR0.out; rw [hmin0] at h; exact h
              have HP : Hid ((T.take l).Perm (S.take l)) := by have h := HP0.out; rw [hmin0] at h; exact h
              clear hmin0 HR0 HP0
              obtain ⟨m1, hm1⟩ : ∃ m1 : Nat, (l : Int) + (W : Int) = (m1 : Int) := ⟨l + W, by simp⟩
              obtain ⟨h1, hh1⟩ : ∃ h1 : Nat, (l : Int) + 2 * (W : Int) = (h1 : Int) := ⟨l + 2 * W, by simp⟩
              rcases (show n < m1 ∨ (m1 ≤ n ∧ n < h1) ∨ h1 ≤ n by omega) with hA | ⟨hB1, hB2⟩ | hC
              · have hO := runs_ord S W c n n n hrun (by rw [← HL.out]; omega) (Nat.le_refl _) (by rw [← HL.out]; omega) (Nat.le_refl _) (fun h => by omega)
                rw [← HL.out] at hO
                have O1 : Hid (Ord S l n) := hO.1
                have O2 : Hid (Ord S n n) := hO.2
                have dA : decide (n < m1) = true := decide_eq_true hA
                have dB : decide (n < h1) = true := decide_eq_true (by omega)
                clear hO
                go_wp2
                go_loopw [11, 12, 13] (fun iv jv kv wr => ∃ (i j k : Nat) (T2 : List Int), iv = .int .i64 i ∧ jv = .int .i64 j ∧ kv = .int .i64 k ∧ Hid (T2.length = n) ∧ Row wr ga S ∧ Row wr gb T2 ∧ Mrg S T2 l n n i j k ∧ Hid (∀ p, p < l → T2.getD p 0 = T.getD p 0) ∧ Below w.heap.size w wr) (fun _ _ kv _ => n - (intOf kv).toNat)
                case atStart => exact ⟨l, n, l, T, rfl, rfl, rfl, HT, hrS, hrT, mrg_start S T l n n (by omega) (by omega) HP.out, fun _ _ => rfl, hbel⟩
                case round =>
                  clear hrS hrT hbel
                  obtain ⟨i, j, k, T2, rfl, rfl, rfl, HT2, hrS2, hrT2, hM, HSame, hbel2⟩ := hrel
                  have a1 := hM.h1
                  have a2 := hM.h2
                  have a3 := hM.h3
                  have a4 := hM.h4
                  have a5 : Hid (i + j = k + n) := hM.h5
                  have hkn : k ≤ n := by have := a5.out; omega
                  have hlk : l ≤ k := by have := a5.out; omega
                  by_cases hk : k < n
                  · have hold := hrT2.cell k (by rw [HT2.out]; omega)
                    have hfz := hrT2.frozen k
                    by_cases hi1 : i < n
                    · have dI : decide (i < n) = true := decide_eq_true hi1
                      have hx := hrS2.cell i (by rw [HS.out]; omega)
                      by_cases hj1 : n ≤ j
                      · have dJ : decide (n ≤ j) = true := decide_eq_true hj1
                        have hM2 := mrg_left S T2 l n n i j k hM (by rw [HS.out]; omega) (by rw [HT2.out, HS.out]) (by omega) O1.out O2.out hi1 (.inl hj1)
                        have hrT3 := hrT2.set k (S.getD i 0)
                        have hrS3 := hrS2.other ⟨gb, k, none⟩ (.int .i32 (S.getD i 0)) hne
                        have HSame3 : Hid (∀ p, p < l → (T2.set k (S.getD i 0)).getD p 0 = T.getD p 0) := fun p hp => (same_below_set T2 k l _ hlk (by rw [HT2.out]; omega) p hp).trans (HSame.out p hp)
                        have HT3 : Hid ((T2.set k (S.getD i 0)).length = n) := by show (T2.set k (S.getD i 0)).length = n; rw [List.length_set]; exact HT2.out
                        obtain ⟨z, hzd⟩ : ∃ z, z = S.getD i 0 := ⟨_, rfl⟩
                        rw [← hzd] at hx hM2 hrT3 hrS3 HSame3 HT3
                        clear hzd hM hrS2 hrT2 HSame HT2 O1 O2 HR HP
                        go_wp2
                        go_quiet (fail)
                        go_wp2
                        go_roundw
                        case rel => exact ⟨i + 1, j, k + 1, T2.set k z, by go_num, rfl, by go_num, HT3, hrS3, hrT3, hM2, HSame3, (below_drewN hbel2 _).setCell hgb _⟩
                        case measure => simp [intOf]; omega
                      · exfalso; omega
                    · exfalso; have := a5.out; omega
                  · have hf := mrg_full hM (by omega) (by omega)
                    have hruns : RunsTo T2 (2 * W) n := runs_more T T2 (2 * W) c n (by rw [← HL.out]; exact HR.out) (fun p hp => HSame.out p (by rw [HL.out]; exact hp)) (by rw [← HL.out]; exact hf.2) (by rw [← HL.out]; omega)
                    have hmin : min (l + 2 * W) n = n := by omega
                    have HM : Hid (min (l + 2 * W) n = n) := hmin
                    have HL2 : Hid (l + 2 * W = (c + 1) * (2 * W)) := by show _ = _; rw [Nat.add_mul, Nat.one_mul, ← HL.out]
                    have HF : Hid ((T2.take n).Perm (S.take n)) := hf.1
                    have HRN : Hid (RunsTo T2 (2 * W) n) := hruns
                    clear hf hruns hmin hM HR HP O1 O2 HL
                    go_wp2
                    go_roundw
                    case rel => exact ⟨c + 1, l + 2 * W, T2, by go_num, HL2, by omega, HT2, hrS2, hrT2, by show RunsTo _ _ _; rw [HM.out]; exact HRN.out, by show List.Perm _ _; rw [HM.out]; exact HF.out, hbel2⟩
                    case measure => simp [intOf]; omega
              · have hO := runs_ord S W c m1 n n hrun (by rw [← HL.out]; omega) (by omega) (by rw [← HL.out]; omega) (Nat.le_refl _) (fun h => by rw [← HL.out]; omega)
                rw [← HL.out] at hO
                have O1 : Hid (Ord S l m1) := hO.1
                have O2 : Hid (Ord S m1 n) := hO.2
                have dA : decide (n < m1) = false := decide_eq_false (by omega)
                have dB : decide (n < h1) = true := decide_eq_true hB2
                clear hO
                go_wp2
                go_loopw [11, 12, 13] (fun iv jv kv wr => ∃ (i j k : Nat) (T2 : List Int), iv = .int .i64 i ∧ jv = .int .i64 j ∧ kv = .int .i64 k ∧ Hid (T2.length = n) ∧ Row wr ga S ∧ Row wr gb T2 ∧ Mrg S T2 l m1 n i j k ∧ Hid (∀ p, p < l → T2.getD p 0 = T.getD p 0) ∧ Below w.heap.size w wr) (fun _ _ kv _ => n - (intOf kv).toNat)
                case atStart => exact ⟨l, m1, l, T, rfl, rfl, rfl, HT, hrS, hrT, mrg_start S T l m1 n (by omega) (by omega) HP.out, fun _ _ => rfl, hbel⟩
                case round =>
                  clear hrS hrT hbel
                  obtain ⟨i, j, k, T2, rfl, rfl, rfl, HT2, hrS2, hrT2, hM, HSame, hbel2⟩ := hrel
                  have a1 := hM.h1
                  have a2 := hM.h2
                  have a3 := hM.h3
                  have a4 := hM.h4
                  have a5 : Hid (i + j = k + m1) := hM.h5
                  have hkn : k ≤ n := by have := a5.out; omega
                  have hlk : l ≤ k := by have := a5.out; omega
                  by_cases hk : k < n
                  · have hold := hrT2.cell k (by rw [HT2.out]; omega)
                    have hfz := hrT2.frozen k
                    by_cases hi1 : i < m1
                    · have dI : decide (i < m1) = true := decide_eq_true hi1
                      have hx := hrS2.cell i (by rw [HS.out]; omega)
                      by_cases hj1 : n ≤ j
                      · have dJ : decide (n ≤ j) = true := decide_eq_true hj1
                        have hM2 := mrg_left S T2 l m1 n i j k hM (by rw [HS.out]; omega) (by rw [HT2.out, HS.out]) (by omega) O1.out O2.out hi1 (.inl hj1)
                        have hrT3 := hrT2.set k (S.getD i 0)
                        have hrS3 := hrS2.other ⟨gb, k, none⟩ (.int .i32 (S.getD i 0)) hne
                        have HSame3 : Hid (∀ p, p < l → (T2.set k (S.getD i 0)).getD p 0 = T.getD p 0) := fun p hp => (same_below_set T2 k l _ hlk (by rw [HT2.out]; omega) p hp).trans (HSame.out p hp)
                        have HT3 : Hid ((T2.set k (S.getD i 0)).length = n) := by show (T2.set k (S.getD i 0)).length = n; rw [List.length_set]; exact HT2.out
                        obtain ⟨z, hzd⟩ : ∃ z, z = S.getD i 0 := ⟨_, rfl⟩
                        rw [← hzd] at hx hM2 hrT3 hrS3 HSame3 HT3
                        clear hzd hM hrS2 hrT2 HSame HT2 O1 O2 HR HP
                        go_wp2
                        go_quiet (fail)
                        go_wp2
                        go_roundw
                        case rel => exact ⟨i + 1, j, k + 1, T2.set k z, by go_num, rfl, by go_num, HT3, hrS3, hrT3, hM2, HSame3, (below_drewN hbel2 _).setCell hgb _⟩
                        case measure => simp [intOf]; omega
                      · have dJ : decide (n ≤ j) = false := decide_eq_false hj1
                        have hy := hrS2.cell j (by rw [HS.out]; omega)
                        by_cases hle : S.getD i 0 ≤ S.getD j 0
                        · have hM2 := mrg_left S T2 l m1 n i j k hM (by rw [HS.out]; omega) (by rw [HT2.out, HS.out]) (by omega) O1.out O2.out hi1 (.inr hle)
                          obtain ⟨y, hyd⟩ : ∃ y, y = S.getD j 0 := ⟨_, rfl⟩
                          rw [← hyd] at hy hle
                          clear hyd
                          have hrT3 := hrT2.set k (S.getD i 0)
                          have hrS3 := hrS2.other ⟨gb, k, none⟩ (.int .i32 (S.getD i 0)) hne
                          have HSame3 : Hid (∀ p, p < l → (T2.set k (S.getD i 0)).getD p 0 = T.getD p 0) := fun p hp => (same_below_set T2 k l _ hlk (by rw [HT2.out]; omega) p hp).trans (HSame.out p hp)
                          have HT3 : Hid ((T2.set k (S.getD i 0)).length = n) := by show (T2.set k (S.getD i 0)).length = n; rw [List.length_set]; exact HT2.out
                          obtain ⟨z, hzd⟩ : ∃ z, z = S.getD i 0 := ⟨_, rfl⟩
                          rw [← hzd] at hx hM2 hrT3 hrS3 HSame3 HT3 hle
                          clear hzd hM hrS2 hrT2 HSame HT2 O1 O2 HR HP
                          go_wp2
                          go_quiet (fail)
                          go_wp2
                          go_roundw
                          case rel => exact ⟨i + 1, j, k + 1, T2.set k z, by go_num, rfl, by go_num, HT3, hrS3, hrT3, hM2, HSame3, (below_drewN hbel2 _).setCell hgb _⟩
                          case measure => simp [intOf]; omega
                        · have hM2 := mrg_right S T2 l m1 n i j k hM (by rw [HS.out]; omega) (by rw [HT2.out, HS.out]) O1.out O2.out (by omega) (fun _ => by omega)
                          have hrT3 := hrT2.set k (S.getD j 0)
                          have hrS3 := hrS2.other ⟨gb, k, none⟩ (.int .i32 (S.getD j 0)) hne
                          have HSame3 : Hid (∀ p, p < l → (T2.set k (S.getD j 0)).getD p 0 = T.getD p 0) := fun p hp => (same_below_set T2 k l _ hlk (by rw [HT2.out]; omega) p hp).trans (HSame.out p hp)
                          have HT3 : Hid ((T2.set k (S.getD j 0)).length = n) := by show (T2.set k (S.getD j 0)).length = n; rw [List.length_set]; exact HT2.out
                          obtain ⟨x, hxd⟩ : ∃ x, x = S.getD i 0 := ⟨_, rfl⟩
                          have hlt2 : S.getD j 0 < S.getD i 0 := by omega
                          rw [← hxd] at hx hlt2
                          clear hxd hle
                          obtain ⟨z, hzd⟩ : ∃ z, z = S.getD j 0 := ⟨_, rfl⟩
                          rw [← hzd] at hy hM2 hrT3 hrS3 HSame3 HT3 hlt2
                          clear hzd hM hrS2 hrT2 HSame HT2 O1 O2 HR HP
                          go_wp2
                          go_quiet (fail)
                          go_wp2
                          go_roundw
                          case rel => exact ⟨i, j + 1, k + 1, T2.set k z, rfl, by go_num, by go_num, HT3, hrS3, hrT3, hM2, HSame3, (below_drewN hbel2 _).setCell hgb _⟩
                          case measure => simp [intOf]; omega
                    · have dI : decide (i < m1) = false := decide_eq_false hi1
                      have hjh : j < n := by have := a5.out; omega
                      have hy := hrS2.cell j (by rw [HS.out]; omega)
                      have hM2 := mrg_right S T2 l m1 n i j k hM (by rw [HS.out]; omega) (by rw [HT2.out, HS.out]) O1.out O2.out hjh (fun h => absurd h hi1)
                      have hrT3 := hrT2.set k (S.getD j 0)
                      have hrS3 := hrS2.other ⟨gb, k, none⟩ (.int .i32 (S.getD j 0)) hne
                      have HSame3 : Hid (∀ p, p < l → (T2.set k (S.getD j 0)).getD p 0 = T.getD p 0) := fun p hp => (same_below_set T2 k l _ hlk (by rw [HT2.out]; omega) p hp).trans (HSame.out p hp)
                      have HT3 : Hid ((T2.set k (S.getD j 0)).length = n) := by show (T2.set k (S.getD j 0)).length = n; rw [List.length_set]; exact HT2.out
                      obtain ⟨z, hzd⟩ : ∃ z, z = S.getD j 0 := ⟨_, rfl⟩
                      rw [← hzd] at hy hM2 hrT3 hrS3 HSame3 HT3
                      clear hzd hM hrS2 hrT2 HSame HT2 O1 O2 HR HP
                      go_wp2
                      go_quiet (fail)
                      go_wp2
                      go_roundw
                      case rel => exact ⟨i, j + 1, k + 1, T2.set k z, rfl, by go_num, by go_num, HT3, hrS3, hrT3, hM2, HSame3, (below_drewN hbel2 _).setCell hgb _⟩
                      case measure => simp [intOf]; omega
                  · have hf := mrg_full hM (by omega) (by omega)
                    have hruns : RunsTo T2 (2 * W) n := runs_more T T2 (2 * W) c n (by rw [← HL.out]; exact HR.out) (fun p hp => HSame.out p (by rw [HL.out]; exact hp)) (by rw [← HL.out]; exact hf.2) (by rw [← HL.out]; omega)
                    have hmin : min (l + 2 * W) n = n := by omega
                    have HM : Hid (min (l + 2 * W) n = n) := hmin
                    have HL2 : Hid (l + 2 * W = (c + 1) * (2 * W)) := by show _ = _; rw [Nat.add_mul, Nat.one_mul, ← HL.out]
                    have HF : Hid ((T2.take n).Perm (S.take n)) := hf.1
                    have HRN : Hid (RunsTo T2 (2 * W) n) := hruns
                    clear hf hruns hmin hM HR HP O1 O2 HL
                    go_wp2
                    go_roundw
                    case rel => exact ⟨c + 1, l + 2 * W, T2, by go_num, HL2, by omega, HT2, hrS2, hrT2, by show RunsTo _ _ _; rw [HM.out]; exact HRN.out, by show List.Perm _ _; rw [HM.out]; exact HF.out, hbel2⟩
                    case measure => simp [intOf]; omega
              · have hO := runs_ord S W c m1 h1 n hrun (by rw [← HL.out]; omega) (by omega) (by rw [← HL.out]; omega) (by omega) (fun h => by rw [← HL.out]; omega)
                rw [← HL.out] at hO
                have O1 : Hid (Ord S l m1) := hO.1
                have O2 : Hid (Ord S m1 h1) := hO.2
                have dA : decide (n < m1) = false := decide_eq_false (by omega)
                have dB : decide (n < h1) = false := decide_eq_false (by omega)
                clear hO
                go_wp2
                go_loopw [11, 12, 13] (fun iv jv kv wr => ∃ (i j k : Nat) (T2 : List Int), iv = .int .i64 i ∧ jv = .int .i64 j ∧ kv = .int .i64 k ∧ Hid (T2.length = n) ∧ Row wr ga S ∧ Row wr gb T2 ∧ Mrg S T2 l m1 h1 i j k ∧ Hid (∀ p, p < l → T2.getD p 0 = T.getD p 0) ∧ Below w.heap.size w wr) (fun _ _ kv _ => h1 - (intOf kv).toNat)
                case atStart => exact ⟨l, m1, l, T, rfl, rfl, rfl, HT, hrS, hrT, mrg_start S T l m1 h1 (by omega) (by omega) HP.out, fun _ _ => rfl, hbel⟩
                case round =>
                  clear hrS hrT hbel
                  obtain ⟨i, j, k, T2, rfl, rfl, rfl, HT2, hrS2, hrT2, hM, HSame, hbel2⟩ := hrel
                  have a1 := hM.h1
                  have a2 := hM.h2
                  have a3 := hM.h3
                  have a4 := hM.h4
                  have a5 : Hid (i + j = k + m1) := hM.h5
                  have hkn : k ≤ h1 := by have := a5.out; omega
                  have hlk : l ≤ k := by have := a5.out; omega
                  by_cases hk : k < h1
                  · have hold := hrT2.cell k (by rw [HT2.out]; omega)
                    have hfz := hrT2.frozen k
                    by_cases hi1 : i < m1
                    · have dI : decide (i < m1) = true := decide_eq_true hi1
                      have hx := hrS2.cell i (by rw [HS.out]; omega)
                      by_cases hj1 : h1 ≤ j
                      · have dJ : decide (h1 ≤ j) = true := decide_eq_true hj1
                        have hM2 := mrg_left S T2 l m1 h1 i j k hM (by rw [HS.out]; omega) (by rw [HT2.out, HS.out]) (by omega) O1.out O2.out hi1 (.inl hj1)
                        have hrT3 := hrT2.set k (S.getD i 0)
                        have hrS3 := hrS2.other ⟨gb, k, none⟩ (.int .i32 (S.getD i 0)) hne
                        have HSame3 : Hid (∀ p, p < l → (T2.set k (S.getD i 0)).getD p 0 = T.getD p 0) := fun p hp => (same_below_set T2 k l _ hlk (by rw [HT2.out]; omega) p hp).trans (HSame.out p hp)
                        have HT3 : Hid ((T2.set k (S.getD i 0)).length = n) := by show (T2.set k (S.getD i 0)).length = n; rw [List.length_set]; exact HT2.out
                        obtain ⟨z, hzd⟩ : ∃ z, z = S.getD i 0 := ⟨_, rfl⟩
                        rw [← hzd] at hx hM2 hrT3 hrS3 HSame3 HT3
                        clear hzd hM hrS2 hrT2 HSame HT2 O1 O2 HR HP
                        go_wp2
                        go_quiet (fail)
                        go_wp2
                        go_roundw
                        case rel => exact ⟨i + 1, j, k + 1, T2.set k z, by go_num, rfl, by go_num, HT3, hrS3, hrT3, hM2, HSame3, (below_drewN hbel2 _).setCell hgb _⟩
                        case measure => simp [intOf]; omega
                      · have dJ : decide (h1 ≤ j) = false := decide_eq_false hj1
                        have hy := hrS2.cell j (by rw [HS.out]; omega)
                        by_cases hle : S.getD i 0 ≤ S.getD j 0
                        · have hM2 := mrg_left S T2 l m1 h1 i j k hM (by rw [HS.out]; omega) (by rw [HT2.out, HS.out]) (by omega) O1.out O2.out hi1 (.inr hle)
                          obtain ⟨y, hyd⟩ : ∃ y, y = S.getD j 0 := ⟨_, rfl⟩
                          rw [← hyd] at hy hle
                          clear hyd
                          have hrT3 := hrT2.set k (S.getD i 0)
                          have hrS3 := hrS2.other ⟨gb, k, none⟩ (.int .i32 (S.getD i 0)) hne
                          have HSame3 : Hid (∀ p, p < l → (T2.set k (S.getD i 0)).getD p 0 = T.getD p 0) := fun p hp => (same_below_set T2 k l _ hlk (by rw [HT2.out]; omega) p hp).trans (HSame.out p hp)
                          have HT3 : Hid ((T2.set k (S.getD i 0)).length = n) := by show (T2.set k (S.getD i 0)).length = n; rw [List.length_set]; exact HT2.out
                          obtain ⟨z, hzd⟩ : ∃ z, z = S.getD i 0 := ⟨_, rfl⟩
                          rw [← hzd] at hx hM2 hrT3 hrS3 HSame3 HT3 hle
                          clear hzd hM hrS2 hrT2 HSame HT2 O1 O2 HR HP
                          go_wp2
                          go_quiet (fail)
                          go_wp2
                          go_roundw
                          case rel => exact ⟨i + 1, j, k + 1, T2.set k z, by go_num, rfl, by go_num, HT3, hrS3, hrT3, hM2, HSame3, (below_drewN hbel2 _).setCell hgb _⟩
                          case measure => simp [intOf]; omega
                        · have hM2 := mrg_right S T2 l m1 h1 i j k hM (by rw [HS.out]; omega) (by rw [HT2.out, HS.out]) O1.out O2.out (by omega) (fun _ => by omega)
                          have hrT3 := hrT2.set k (S.getD j 0)
                          have hrS3 := hrS2.other ⟨gb, k, none⟩ (.int .i32 (S.getD j 0)) hne
                          have HSame3 : Hid (∀ p, p < l → (T2.set k (S.getD j 0)).getD p 0 = T.getD p 0) := fun p hp => (same_below_set T2 k l _ hlk (by rw [HT2.out]; omega) p hp).trans (HSame.out p hp)
                          have HT3 : Hid ((T2.set k (S.getD j 0)).length = n) := by show (T2.set k (S.getD j 0)).length = n; rw [List.length_set]; exact HT2.out
                          obtain ⟨x, hxd⟩ : ∃ x, x = S.getD i 0 := ⟨_, rfl⟩
                          have hlt2 : S.getD j 0 < S.getD i 0 := by omega
                          rw [← hxd] at hx hlt2
                          clear hxd hle
                          obtain ⟨z, hzd⟩ : ∃ z, z = S.getD j 0 := ⟨_, rfl⟩
                          rw [← hzd] at hy hM2 hrT3 hrS3 HSame3 HT3 hlt2
                          clear hzd hM hrS2 hrT2 HSame HT2 O1 O2 HR HP
                          go_wp2
                          go_quiet (fail)
                          go_wp2
                          go_roundw
                          case rel => exact ⟨i, j + 1, k + 1, T2.set k z, rfl, by go_num, by go_num, HT3, hrS3, hrT3, hM2, HSame3, (below_drewN hbel2 _).setCell hgb _⟩
                          case measure => simp [intOf]; omega
                    · have dI : decide (i < m1) = false := decide_eq_false hi1
                      have hjh : j < h1 := by have := a5.out; omega
                      have hy := hrS2.cell j (by rw [HS.out]; omega)
                      have hM2 := mrg_right S T2 l m1 h1 i j k hM (by rw [HS.out]; omega) (by rw [HT2.out, HS.out]) O1.out O2.out hjh (fun h => absurd h hi1)
                      have hrT3 := hrT2.set k (S.getD j 0)
                      have hrS3 := hrS2.other ⟨gb, k, none⟩ (.int .i32 (S.getD j 0)) hne
                      have HSame3 : Hid (∀ p, p < l → (T2.set k (S.getD j 0)).getD p 0 = T.getD p 0) := fun p hp => (same_below_set T2 k l _ hlk (by rw [HT2.out]; omega) p hp).trans (HSame.out p hp)
                      have HT3 : Hid ((T2.set k (S.getD j 0)).length = n) := by show (T2.set k (S.getD j 0)).length = n; rw [List.length_set]; exact HT2.out
                      obtain ⟨z, hzd⟩ : ∃ z, z = S.getD j 0 := ⟨_, rfl⟩
                      rw [← hzd] at hy hM2 hrT3 hrS3 HSame3 HT3
                      clear hzd hM hrS2 hrT2 HSame HT2 O1 O2 HR HP
                      go_wp2
                      go_quiet (fail)
                      go_wp2
                      go_roundw
                      case rel => exact ⟨i, j + 1, k + 1, T2.set k z, rfl, by go_num, by go_num, HT3, hrS3, hrT3, hM2, HSame3, (below_drewN hbel2 _).setCell hgb _⟩
                      case measure => simp [intOf]; omega
                  · have hf := mrg_full hM (by omega) (by omega)
                    have hruns : RunsTo T2 (2 * W) h1 := runs_more T T2 (2 * W) c h1 (by rw [← HL.out]; exact HR.out) (fun p hp => HSame.out p (by rw [HL.out]; exact hp)) (by rw [← HL.out]; exact hf.2) (by rw [← HL.out]; omega)
                    have hmin : min (l + 2 * W) n = h1 := by omega
                    have HM : Hid (min (l + 2 * W) n = h1) := hmin
                    have HL2 : Hid (l + 2 * W = (c + 1) * (2 * W)) := by show _ = _; rw [Nat.add_mul, Nat.one_mul, ← HL.out]
                    have HF : Hid ((T2.take h1).Perm (S.take h1)) := hf.1
                    have HRN : Hid (RunsTo T2 (2 * W) h1) := hruns
                    clear hf hruns hmin hM HR HP O1 O2 HL
                    go_wp2
                    go_roundw
                    case rel => exact ⟨c + 1, l + 2 * W, T2, by go_num, HL2, by omega, HT2, hrS2, hrT2, by show RunsTo _ _ _; rw [HM.out]; exact HRN.out, by show List.Perm _ _; rw [HM.out]; exact HF.out, hbel2⟩
                    case measure => simp [intOf]; omega
            · have hmin0 : min l n = n := by omega
              have hTS : T.Perm S := by
                have h := HP0.out
                rw [hmin0, List.take_of_length_le (by rw [HT.out]; exact Nat.le_refl _), List.take_of_length_le (by rw [HS.out]; exact Nat.le_refl _)] at h
                exact h
              have hRT : RunsTo T (W * 2) n := by
                have h := HR0.out
                rw [hmin0, Nat.mul_comm] at h
                exact h
              have hpm2 := hTS.trans hpm
              clear hmin0 HR0 HP0 hTS
              go_wp2
              go_roundw
              case rel => exact ⟨gb, ga, W * 2, T, S, rfl, rfl, by go_num, fun h => hne h.symm, hgb, hga, by omega, by omega, HT, HS, hrT, hrS, hpm2, hRT, hbel⟩
              case measure => simp [intOf]; omega
        · go_wp2
          go_ret
          exact ⟨S, ga, rfl, hrS, hpm, runs_asc S W (by rw [HS.out]; exact hrun) (by rw [HS.out]; omega), hbel⟩

end Go.Proofs.Qxb6602066a
