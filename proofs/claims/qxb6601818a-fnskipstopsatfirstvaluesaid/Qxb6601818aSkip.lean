/-
  SEAT b6601818a: the contracts of isSepPlanB1 (17), (*document).skip (21), ZZSkip (16).
-/
import Derived.Test.Qxb6601818aClone
import Derived.Test.Qxb6601818aPlainSkip
namespace Go.Proofs.Qxb6601818a
open Go.RowKit

theorem ret_int {k : IntKind} {a b : Int} (h : a = b) : Ending.returned (.int k a) = .returned (.int k b) := by rw [h]
theorem ret_bool {a b : Bool} (h : a = b) : Ending.returned (.bool a) = .returned (.bool b) := by rw [h]

set_option maxHeartbeats 800000 in
set_option maxRecDepth 100000 in
theorem sep_any (c : Int) (w : World) : Calls Try.prog 17 #[.int .u8 c] w fun e w' => e = .returned (.bool (sepB c)) ∧ w = w' := by
  by_cases h1 : c = 32
  · subst h1; go_enter Try.func17, Try.ntmps17; go_wp2; go_ret; exact ⟨rfl, rfl⟩
  by_cases h2 : c = 9
  · subst h2; go_enter Try.func17, Try.ntmps17; go_wp2; go_ret; exact ⟨rfl, rfl⟩
  by_cases h3 : c = 13
  · subst h3; go_enter Try.func17, Try.ntmps17; go_wp2; go_ret; exact ⟨rfl, rfl⟩
  by_cases h4 : c = 10
  · subst h4; go_enter Try.func17, Try.ntmps17; go_wp2; go_ret; exact ⟨rfl, rfl⟩
  by_cases h5 : c = 61
  · subst h5; go_enter Try.func17, Try.ntmps17; go_wp2; go_ret; exact ⟨rfl, rfl⟩
  by_cases h6 : c = 44
  · subst h6; go_enter Try.func17, Try.ntmps17; go_wp2; go_ret; exact ⟨rfl, rfl⟩
  have e1 : (c == 32) = false := by simpa using h1
  have e2 : (c == 9) = false := by simpa using h2
  have e3 : (c == 13) = false := by simpa using h3
  have e4 : (c == 10) = false := by simpa using h4
  have e5 : (c == 61) = false := by simpa using h5
  have e6 : (c == 44) = false := by simpa using h6
  have HS : Hid (sepB c = false) := by show sepB c = false; simp [sepB, h1, h2, h3, h4, h5, h6]
  clear h1 h2 h3 h4 h5 h6
  go_enter Try.func17, Try.ntmps17
  go_wp2
  go_ret
  exact ⟨ret_bool HS.out.symm, rfl⟩

set_option maxHeartbeats 400000 in
theorem skip_past (d : Nat) (ao : Option Addr) (n cap o : Nat) (w : World) (hn : n ≤ o) (_ho : o ≤ 9223372036854775807)
    (hd : w.cell? ⟨d, 0, none⟩ = some (.slice ao n cap)) :
    Calls Try.prog 21 #[.pointer (some ⟨d, 0, none⟩), .int .i64 o] w fun e w' => e = .returned (.int .i64 o) ∧ w = w' := by
  go_enter Try.func21, Try.ntmps21
  go_wp2
  go_loop [1] (fun i => i = .int .i64 o) (fun _ => 0)
  case atStart => rfl
  case round =>
    subst hrel
    go_wp2
    go_ret
    exact ⟨rfl, rfl⟩

set_option maxHeartbeats 1600000 in
set_option maxRecDepth 100000 in
theorem skip_in (d b off cap o : Nat) (zs : List Int) (w : World) (hn : zs.length ≤ 1048576) (ho : o < zs.length)
    (hd : w.cell? ⟨d, 0, none⟩ = some (.slice (some ⟨b, off, none⟩) zs.length cap))
    (hc : ∀ i, i < zs.length → w.cell? ⟨b, off + i, none⟩ = some (.int .u8 (zs.getD i 0))) :
    Calls Try.prog 21 #[.pointer (some ⟨d, 0, none⟩), .int .i64 o] w fun e w' => e = .returned (.int .i64 (skF zs o : Nat)) ∧ w = w' := by
  obtain ⟨Q, hQ⟩ : ∃ Q, Q = skF zs o := ⟨_, rfl⟩
  rw [← hQ]
  have HQ : Hid (Q = skF zs o) := hQ
  have HC : Hid (∀ i, i < zs.length → w.cell? ⟨b, off + i, none⟩ = some (.int .u8 (zs.getD i 0))) := hc
  clear hQ hc
  go_enter Try.func21, Try.ntmps21
  go_wp2
  go_loop [1] (fun i => ∃ p : Nat, p ≤ zs.length ∧ i = .int .i64 p ∧ Hid (p + skp (zs.drop p) false = Q)) (fun i => zs.length - (intOf i).toNat)
  case atStart => exact ⟨o, by omega, rfl, HQ.out.symm⟩
  case round =>
    obtain ⟨p, hp, rfl, H⟩ := hrel
    by_cases hlt : p < zs.length
    · have hcp := HC.out p hlt
      obtain ⟨c, hcd⟩ : ∃ c, c = zs.getD p 0 := ⟨_, rfl⟩
      rw [← hcd] at hcp
      have HZ : Hid (zs.getD p 0 = c) := hcd.symm
      clear hcd
      by_cases hs : sepB c = true
      · have HN : Hid (p + 1 + skp (zs.drop (p + 1)) false = Q) := by
          have h1 := H.out
          rw [skp_sep zs p hlt (by rw [HZ.out]; exact hs)] at h1
          show p + 1 + _ = Q
          omega
        have hcs : c = 32 ∨ c = 9 ∨ c = 13 ∨ c = 10 ∨ c = 61 ∨ c = 44 := by
          simp only [sepB, Bool.or_eq_true, beq_iff_eq] at hs; omega
        clear hs H HZ
        rcases hcs with rfl | rfl | rfl | rfl | rfl | rfl
        all_goals
          go_wp2
          go_round
          case rel => exact ⟨p + 1, by omega, by go_num, HN⟩
          case measure => simp [intOf]; omega
      · by_cases h35 : c = 35
        · subst h35
          have HN : Hid (p + skp (zs.drop p) true = Q) := by
            have h1 := H.out
            rw [skp_hash_in zs p hlt HZ.out] at h1
            exact h1
          clear hs H
          go_wp2
          go_loop [1] (fun i => ∃ q : Nat, p ≤ q ∧ q ≤ zs.length ∧ i = .int .i64 q ∧ Hid (q + skp (zs.drop q) true = Q)) (fun i => zs.length - (intOf i).toNat)
          case atStart => exact ⟨p, by omega, by omega, rfl, HN⟩
          case round =>
            clear HN
            obtain ⟨q, hq1, hq2, rfl, H⟩ := hrel
            by_cases hql : q < zs.length
            · have hcq := HC.out q hql
              obtain ⟨e, hed⟩ : ∃ e, e = zs.getD q 0 := ⟨_, rfl⟩
              rw [← hed] at hcq
              have HE : Hid (zs.getD q 0 = e) := hed.symm
              clear hed
              by_cases h10 : e = 10
              · subst h10
                have hne : p < q := by
                  rcases Nat.lt_or_eq_of_le hq1 with h | h
                  · exact h
                  · subst h; have h1 := HZ.out; have h2 := HE.out; omega
                have HN : Hid (q + skp (zs.drop q) false = Q) := by
                  have h1 := H.out
                  rw [skp_nl_in zs q hql HE.out] at h1
                  exact h1
                clear H
                go_wp2
                go_round
                case rel => exact ⟨q, by omega, rfl, HN⟩
                case measure => simp [intOf]; omega
              · have ht : (e != 10) = true := by simpa using h10
                have HN : Hid (q + 1 + skp (zs.drop (q + 1)) true = Q) := by
                  have h1 := H.out
                  rw [skp_in zs q hql (by rw [HE.out]; exact h10)] at h1
                  show q + 1 + _ = Q
                  omega
                clear H h10
                go_wp2
                go_round
                case rel => exact ⟨q + 1, by omega, by omega, by go_num, HN⟩
                case measure => simp [intOf]; omega
            · have hqe : q = zs.length := by omega
              have HN : Hid (q + skp (zs.drop q) false = Q) := by
                have h1 := H.out
                rw [hqe, List.drop_length, skp_nil] at h1
                show q + skp (zs.drop q) false = Q
                rw [hqe, List.drop_length, skp_nil]; exact h1
              clear H hqe
              go_wp2
              go_round
              case rel => exact ⟨q, by omega, rfl, HN⟩
              case measure => simp [intOf]; omega
        · have hcs : ¬ c = 32 ∧ ¬ c = 9 ∧ ¬ c = 13 ∧ ¬ c = 10 ∧ ¬ c = 61 ∧ ¬ c = 44 := by
            simp only [sepB, Bool.or_eq_true, beq_iff_eq] at hs; omega
          obtain ⟨h1, h2, h3, h4, h5, h6⟩ := hcs
          have HN : Hid (p = Q) := by
            have h7 := H.out
            rw [skp_stop zs p hlt (by rw [HZ.out]; exact hs) (by rw [HZ.out]; exact h35)] at h7
            exact h7
          have e1 : (c == 32) = false := by simpa using h1
          have e2 : (c == 9) = false := by simpa using h2
          have e3 : (c == 13) = false := by simpa using h3
          have e4 : (c == 10) = false := by simpa using h4
          have e5 : (c == 61) = false := by simpa using h5
          have e6 : (c == 44) = false := by simpa using h6
          have e7 : (c == 35) = false := by simpa using h35
          clear h1 h2 h3 h4 h5 h6 h35 hs H
          go_wp2
          go_ret
          exact ⟨ret_int (by rw [HN.out]), rfl⟩
    · have hqe : p = zs.length := by omega
      have HN : Hid (p = Q) := by
        have h1 := H.out
        rw [hqe, List.drop_length, skp_nil] at h1
        show p = Q
        omega
      clear H hqe
      go_wp2
      go_ret
      exact ⟨ret_int (by rw [HN.out]), rfl⟩

set_option maxHeartbeats 800000 in
theorem zzskip_any (ao : Option Addr) (n cap : Nat) (a1 : Option Addr) (n1 c1 o : Nat) (zs : List Int) (w : World) (hz : zs.length = n) (hn : n ≤ 1048576) (ho : o ≤ 9223372036854775807)
    (h : Rd .u8 w (.slice ao n cap) zs) :
    Calls Try.prog 16 #[.slice ao n cap, .slice a1 n1 c1, .int .i64 o] w fun e w' => e = .returned (.int .i64 (skF zs o : Nat)) ∧ Below w.heap.size w w' := by
  subst hz
  by_cases hlt : o < zs.length
  · obtain ⟨ao', cap', hv, h1, h2, h3, h4⟩ := h
    simp only [Value.slice.injEq, true_and] at hv
    obtain ⟨rfl, rfl⟩ := hv
    obtain ⟨b, off, rfl, hc⟩ := h4 (by omega)
    clear h3 h4
    have hbl := World.block_lt_of_cell? w _ (hc o hlt)
    simp only at hbl
    have HB : Hid (∀ O : Obj, ∀ i, i < zs.length → (w.alloc O).cell? ⟨b, off + i, none⟩ = some (.int .u8 (zs.getD i 0))) := by
      intro O i hi
      rw [((Below.refl w.heap.size w).alloc (Nat.le_refl _) O).cell hbl]; exact hc i hi
    clear hc
    go_enter Try.func16, Try.ntmps16
    go_wp2_with fail
    refine (skip_in w.heap.size b off cap o zs _ hn hlt (by simp) (HB.out _)).mono ?_
    rintro e w' ⟨rfl, rfl⟩
    go_wp2_with fail
    go_ret
    exact ⟨rfl, (Below.refl _ _).alloc (Nat.le_refl _) _⟩
  · clear h
    have HS : Hid (skF zs o = o) := skF_past zs o (by omega)
    go_enter Try.func16, Try.ntmps16
    go_wp2_with fail
    refine (skip_past w.heap.size ao zs.length cap o _ (by omega) ho (by simp)).mono ?_
    rintro e w' ⟨rfl, rfl⟩
    go_wp2_with fail
    go_ret
    exact ⟨ret_int (by rw [HS.out]), (Below.refl _ _).alloc (Nat.le_refl _) _⟩

end Go.Proofs.Qxb6601818a
