/-
  SEAT b6602066a: the walk of FnQueuePopAllInAscendingOrder (function 4).
-/
import Derived.Test.Qxb6602066aLeast
namespace Go.Proofs.Qxb6602066a
open Go.RowKit

theorem Row.grown {w w' : World} {g h : Nat} {L : List Int} (hr : Row w h L) (hg : w.grownBy w' (some g)) (hne : h ≠ g) : Row w' h L := by
  unfold Row
  rw [hg.block h hr.lt (by simpa using hne)]; exact hr

/-- The row 'out' when the numbers O have been laid into it. -/
def outL (O : List Int) (r : Nat) : List Int := O ++ List.replicate r 0
theorem outL_length (O : List Int) (r : Nat) : (outL O r).length = O.length + r := by simp [outL]
theorem outL_set (O : List Int) (r : Nat) (x : Int) : (outL O (r + 1)).set O.length x = outL (O ++ [x]) r := by
  simp [outL, List.replicate_succ]

theorem all_step {zs O L M : List Int} {r n : Nat} (hL : L.length = n) (hr : r + 1 ≤ n) (hh : HeapN L (r + 1)) (hp : (L.getD 0 0 :: M.take r).Perm (L.take (r + 1))) (ha : Asc O) (hb : ∀ a ∈ O, ∀ b ∈ L.take (r + 1), a ≤ b)
    (hz : (O ++ L.take (r + 1)).Perm zs) : Asc (O ++ [L.getD 0 0]) ∧ (∀ a ∈ O ++ [L.getD 0 0], ∀ b ∈ M.take r, a ≤ b) ∧ ((O ++ [L.getD 0 0]) ++ M.take r).Perm zs := by
  have hx : L.getD 0 0 ∈ L.take (r + 1) := hp.mem_iff.1 (by simp)
  refine ⟨asc_snoc ha (fun y hy => hb y hy _ hx), ?_, ?_⟩
  · intro a h1 b h2
    have h3 : b ∈ L.take (r + 1) := hp.mem_iff.1 (List.mem_cons_of_mem _ h2)
    rcases List.mem_append.1 h1 with h4 | h4
    · exact hb a h4 b h3
    · simp only [List.mem_singleton] at h4
      rw [h4]; exact heap_least L (r + 1) (by omega) hh b h3
  · rw [List.append_assoc]
    exact (List.Perm.append_left O hp).trans hz

set_option maxHeartbeats 3200000 in
set_option maxRecDepth 100000 in
theorem all_any (a0 : Option Addr) (cap0 : Nat) (zs : List Int) (w : World) (hrd : Rd (Value.int .i32) 0 w (.slice a0 zs.length cap0) zs) :
    Calls Try.prog 4 #[.slice a0 zs.length cap0] w fun e w' => e = .returned (.bool true) ∧ Below w.heap.size w w' := by
  have hz := hrd.len
  obtain ⟨i0, hi, hz0, hz1, hz2⟩ := info_parts Try.info21
  by_cases hn : zs.length ≤ 1048576
  · by_cases hn2 : zs.length ≤ 262144
    · obtain ⟨n, hnz⟩ : ∃ n, zs.length = n := ⟨_, rfl⟩
      rw [hnz] at hrd hn2 ⊢
      have HZ : Hid (zs.length = n) := hnz
      clear hn hz hnz
      have d1 : decide ((262144 : Int) < (n : Int)) = false := decide_eq_false (by omega)
      go_enter Try.func4, Try.ntmps4
      go_wp2_with fail
      refine (bytes13 _ _ _ _ (by omega)).mono ?_
      rintro e w' ⟨rfl, rfl⟩
      go_wp2_with fail
      refine (heap_any a0 n cap0 zs w HZ.out (by omega) hrd).mono ?_
      rintro e w1 ⟨b, rfl, hb, hbel1⟩
      cases b with
      | false =>
        clear hb
        go_wp2_with fail
        go_ret
        exact ⟨rfl, hbel1⟩
      | true =>
        have HH : Hid (HeapN zs n) := hb.1 rfl
        clear hb
        go_wp2_with fail
        refine (clone_n _ n zs w1 HZ.out (by omega) (hrd.below hbel1)).mono ?_
        rintro e w2 ⟨ao, rfl, hown, hb2⟩
        have hbel2 : Below w.heap.size w w2 := hbel1.trans (hb2.mono hbel1.size)
        have hs1 := hbel1.size
        have hs2 := hbel2.size
        by_cases hn0 : n = 0
        · subst hn0
          clear hown hb2 hbel1 HH
          go_wp2_with (at_make; refine wpList_make_full _ rfl _ _ 22 rfl w2.heap.size 21 i0 (.int .i32 0) 1 Try.underlying22 hi hz0 hz1 _ _ _ _ 0 rfl rfl rfl rfl ?b4 ?b5 ?b6 ?_)
          case b4 => omega
          case b5 => exact Nat.zero_le _
          case b6 => exact Nat.le_refl _
          intro w3 hown3 hgr3
          have hb3 : Below w2.heap.size w2 w3 := (Below.refl _ _).grown hgr3 (Nat.le_refl _) (fun k h => by cases h)
          have hbel3 : Below w.heap.size w w3 := hbel2.trans (hb3.mono hs2)
          clear hown3 hgr3 hb3 hbel2
          go_wp2
          go_loop [3, 6] (fun hv iv => hv = .slice ao 0 0 ∧ iv = .int .i64 0) (fun _ _ => 0)
          case atStart => exact ⟨rfl, rfl⟩
          case round =>
            obtain ⟨rfl, rfl⟩ := hrel
            go_wp2_with fail
            refine (sort_n a0 0 cap0 zs w3 HZ.out (by omega) (hrd.below hbel3)).mono ?_
            rintro e w5 ⟨ss, gs, rfl, hrs, hsp, hsa, hb5⟩
            have hbel5 : Below w.heap.size w w5 := hbel3.trans (hb5.mono hbel3.size)
            clear hsp hsa hb5 hbel3 hrs
            go_wp2_with fail
            go_loop [9] (fun iv => iv = .int .i64 0) (fun _ => 0)
            case atStart => rfl
            case round =>
              subst hrel
              go_wp2
              go_ret
              exact ⟨rfl, hbel5⟩
        · obtain ⟨g, rfl, hrow2, hg2⟩ := own_some hown (by omega)
          have hgw : w.heap.size ≤ g := Nat.le_trans hs1 hg2
          have hg3 := hrow2.lt
          clear hown hb2 hg2 hbel1
          go_wp2_with (at_make; refine wpList_make_full _ rfl _ _ 22 rfl w2.heap.size 21 i0 (.int .i32 0) 1 Try.underlying22 hi hz0 hz1 _ _ _ _ n rfl rfl rfl rfl ?b1 ?b2 ?b3 ?_)
          case b1 => rw [hz2]; omega
          case b2 => unfold maxLen; omega
          case b3 => exact Nat.le_refl _
          intro w3 hown3 hgr3
          have hb3 : Below w2.heap.size w2 w3 := (Below.refl _ _).grown hgr3 (Nat.le_refl _) (fun k h => by cases h)
          have hrow3 := hrow2.below hb3 hg3
          have hout3 : Row w3 w2.heap.size (outL [] n) := by
            refine (Row.own (B := w2.heap.size) (n := n) ?_).1
            simpa [outL, Value.cells, toList_madeCells_one] using hown3
          have hbel3 : Below w.heap.size w w3 := hbel2.trans (hb3.mono hs2)
          obtain ⟨go, hgo⟩ : ∃ go, go = w2.heap.size := ⟨_, rfl⟩
          rw [← hgo] at hout3 hg3 hs2 ⊢
          clear hown3 hgr3 hb3 hrow2 hbel2 hgo
          go_wp2
          go_loopw [3, 6] (fun hv iv wr => ∃ (k r : Nat) (L O : List Int), hv = .slice (some ⟨g, 0, none⟩) r n ∧ iv = .int .i64 k ∧ k ≤ n ∧ Hid (r + k = n) ∧ Hid (L.length = n) ∧ Hid (O.length = k) ∧ Hid (HeapN L r) ∧ Hid (Asc O) ∧ Hid (∀ a ∈ O, ∀ b ∈ L.take r, a ≤ b) ∧ Hid ((O ++ L.take r).Perm zs) ∧
              Row wr g L ∧ Row wr go (outL O r) ∧ Below w.heap.size w wr) (fun _ iv _ => n - (intOf iv).toNat)
          case atStart => exact ⟨0, n, zs, [], rfl, rfl, Nat.zero_le _, by show n + 0 = n; omega, HZ, by show ([] : List Int).length = 0; rfl, HH, by show Asc []; exact List.Pairwise.nil, by intro a ha; simp at ha, by show List.Perm _ _; rw [List.nil_append, List.take_of_length_le (by rw [HZ.out]; exact Nat.le_refl _)], hrow3, hout3, hbel3⟩
          case round =>
            clear hrow3 hout3 hbel3
            obtain ⟨k, r, L, O, rfl, rfl, hk, HRK, HLL, HOL, HHP, HAS, HAB, HPM, hrow, hout, hbel⟩ := hrel
            by_cases hlt : k < n
            · obtain ⟨r1, hr1⟩ : ∃ r1, r = r1 + 1 := ⟨r - 1, by have := HRK.out; omega⟩
              subst hr1
              have hr2 : r1 + 1 ≤ n := by have := HRK.out; omega
              have hm0 : ((r1 : Int) + 1 == 0) = false := by simp; omega
              go_wp2_with fail
              refine (zzpop_any g r1 n L wr (by omega) hr2 HLL.out HHP.out hrow).mono ?_
              rintro e w4 ⟨rfl, M, hM1, hM2, hM3, hrow4, hgr⟩
              have hgog : go ≠ g := by omega
              have hst := all_step HLL.out hr2 HHP.out hM3 HAS.out HAB.out HPM.out
              have HM1 : Hid (M.length = n) := hM1
              have HM2 : Hid (HeapN M r1) := hM2
              have hout4 := hout.grown hgr hgog
              have hbel4 : Below w.heap.size w w4 := grown_below hbel hgr hbel.size hgw
              have hold := hout4.cell k (by rw [outL_length, HOL.out]; omega)
              have hfz := hout4.frozen k
              have hout5 := hout4.set k (L.getD 0 0)
              have hse : (outL O (r1 + 1)).set k (L.getD 0 0) = outL (O ++ [L.getD 0 0]) r1 := by
                have h := outL_set O r1 (L.getD 0 0)
                rw [HOL.out] at h
                exact h
              rw [hse] at hout5
              have hrow5 := hrow4.other ⟨go, k, none⟩ (.int .i32 (L.getD 0 0)) (fun h => hgog h.symm)
              have hbel5 := hbel4.setCell (p := ⟨go, k, none⟩) hs2 (.int .i32 (L.getD 0 0))
              have HRK2 : Hid (r1 + (k + 1) = n) := by have := HRK.out; show r1 + (k + 1) = n; omega
              have HOL2 : Hid ((O ++ [L.getD 0 0]).length = k + 1) := by show (O ++ [L.getD 0 0]).length = k + 1; rw [List.length_append, HOL.out]; rfl
              have HS1 : Hid (Asc (O ++ [L.getD 0 0])) := hst.1
              have HS2 : Hid (∀ a ∈ O ++ [L.getD 0 0], ∀ b ∈ M.take r1, a ≤ b) := hst.2.1
              have HS3 : Hid (((O ++ [L.getD 0 0]) ++ M.take r1).Perm zs) := hst.2.2
              obtain ⟨x, hx⟩ : ∃ x, x = L.getD 0 0 := ⟨_, rfl⟩
              rw [← hx] at hout5 hrow5 hbel5 HOL2 HS1 HS2 HS3 ⊢
              clear hx hst hM1 hM2 hM3 hse hrow hrow4 hout hout4 hbel hbel4 hgr HRK HLL HOL HHP HAS HAB HPM
              go_wp2
              go_roundw
              case rel => exact ⟨k + 1, r1, M, O ++ [x], rfl, by go_num, by omega, HRK2, HM1, HOL2, HM2, HS1, HS2, HS3, hrow5, hout5, hbel5⟩
              case measure => simp [intOf]; omega
            · obtain rfl : r = 0 := by have := HRK.out; omega
              have hOp : O.Perm zs := by have h := HPM.out; rw [List.take_zero, List.append_nil] at h; exact h
              have hout' : Row wr go O := by have h := hout; simp only [outL, List.replicate_zero, List.append_nil] at h; exact h
              clear HPM hout HAB HHP hrow
              go_wp2_with fail
              refine (sort_n a0 n cap0 zs wr HZ.out (by omega) (hrd.below hbel)).mono ?_
              rintro e w5 ⟨ss, gs, rfl, hrs, hsp, hsa, hb5⟩
              have HEQ : Hid (O = ss) := asc_eq HAS.out hsa (hOp.trans hsp.symm)
              have HSL : Hid (ss.length = n) := by show ss.length = n; rw [hsp.length_eq]; exact HZ.out
              have hout5 := hout'.below hb5 hout'.lt
              have hbel5 : Below w.heap.size w w5 := hbel.trans (hb5.mono hbel.size)
              clear hsp hsa hOp hout' hb5 hbel HAS
              go_wp2_with fail
              go_loopw [9] (fun iv wr => (∃ k : Nat, k ≤ n ∧ iv = .int .i64 k) ∧ Below w5.heap.size w5 wr) (fun iv _ => n - (intOf iv).toNat)
              case atStart => exact ⟨⟨0, Nat.zero_le _, rfl⟩, Below.refl _ _⟩
              case round =>
                obtain ⟨⟨j, hj, rfl⟩, hq⟩ := hrel
                by_cases hjn : j < n
                · have h1 := (hout5.below hq hout5.lt).cell j (by rw [HEQ.out, HSL.out]; exact hjn)
                  have h2 := (hrs.below hq hrs.lt).cell j (by rw [HSL.out]; exact hjn)
                  rw [HEQ.out] at h1
                  obtain ⟨c, hcd⟩ : ∃ c, c = ss.getD j 0 := ⟨_, rfl⟩
                  rw [← hcd] at h1 h2
                  clear hcd
                  go_wp2
                  go_quiet (fail)
                  go_wp2
                  go_roundw
                  case rel => exact ⟨⟨j + 1, by omega, by go_num⟩, below_drewN hq _⟩
                  case measure => simp [intOf]; omega
                · go_wp2
                  go_ret
                  exact ⟨rfl, hbel5.trans (hq.mono hbel5.size)⟩
    · go_enter Try.func4, Try.ntmps4
      go_wp2_with fail
      refine (bytes13 _ _ _ _ (by omega)).mono ?_
      rintro e w' ⟨rfl, rfl⟩
      go_wp2_with fail
      go_ret
      exact ⟨rfl, Below.refl _ _⟩
  · go_enter Try.func4, Try.ntmps4
    go_wp2_with fail
    refine (bytes13_no _ _ _ _ (by omega)).mono ?_
    rintro e w' ⟨rfl, rfl⟩
    go_wp2_with fail
    go_ret
    exact ⟨rfl, Below.refl _ _⟩

end Go.Proofs.Qxb6602066a
