/-
  SEAT b6602066a: the walk of FnQueuePopTakesLeastKeepsHeap (function 3).
-/
import Derived.Test.Qxb6602066aSort
import Derived.Test.Qxb6602066aPop
namespace Go.Proofs.Qxb6602066a
open Go.RowKit

theorem sort_n (a0 : Option Addr) (n cap0 : Nat) (zs : List Int) (w : World) (hl : zs.length = n) (hn : n ≤ 262144) (hrd : Rd (Value.int .i32) 0 w (.slice a0 n cap0) zs) :
    Calls Try.prog 12 #[.slice a0 n cap0] w fun e w' => ∃ ss g, e = .returned (.slice (some ⟨g, 0, none⟩) n n) ∧ Row w' g ss ∧ ss.Perm zs ∧ Asc ss ∧ Below w.heap.size w w' := by
  subst hl; exact sort_any a0 cap0 zs w hn hrd

theorem clone_n (v : Value) (n : Nat) (zs : List Int) (w : World) (hl : zs.length = n) (hn : n ≤ 1048576) (h : Rd (Value.int .i32) 0 w v zs) :
    Calls Try.prog 10 #[v] w fun e w' => ∃ ao, e = .returned (.slice ao n n) ∧ w'.ownsRow w.heap.size 21 1 (.slice ao n n) n (zs.map (Value.int .i32)) ∧ Below w.heap.size w w' := by
  subst hl; exact clone_any v zs w hn h

theorem own_some {w : World} {B n : Nat} {ao : Option Addr} {L : List Int} (h : w.ownsRow B 21 1 (.slice ao n n) n (L.map (Value.int .i32))) (h0 : 0 < n) : ∃ g, ao = some ⟨g, 0, none⟩ ∧ Row w g L ∧ B ≤ g := by
  have h' := h
  rcases h.2 with ⟨_, hn⟩ | ⟨g, cap, cur, hv, _⟩
  · omega
  · simp only [Value.slice.injEq] at hv
    obtain ⟨rfl, _, _⟩ := hv
    exact ⟨g, rfl, Row.own h'⟩

theorem gd_take (L : List Int) (m j : Nat) (h : j < m) : (L.take m).getD j 0 = L.getD j 0 := by
  simp [List.getD, h]
theorem heapN_take (L : List Int) (m : Nat) (h : HeapN L m) : HeapN (L.take m) m := by
  intro j h1 h2
  rw [gd_take _ _ _ (by omega), gd_take _ _ _ h2]; exact h j h1 h2

theorem pop_sorted {zs ss tt R : List Int} {m : Nat} (hl : zs.length = m + 1) (hh : HeapN zs (m + 1)) (hp : (zs.getD 0 0 :: R).Perm (zs.take (m + 1))) (h1 : ss.Perm zs) (h2 : Asc ss) (h3 : tt.Perm R) (h4 : Asc tt) : ss = zs.getD 0 0 :: tt := by
  have e : zs.take (m + 1) = zs := List.take_of_length_le (by omega)
  rw [e] at hp
  have hmin := heap_least zs (m + 1) (by omega) hh
  rw [e] at hmin
  refine asc_eq h2 (asc_cons h4 (fun y hy => hmin y (hp.mem_iff.1 (List.mem_cons_of_mem _ (h3.mem_iff.1 hy))))) ?_
  exact h1.trans (hp.symm.trans (List.Perm.cons _ h3.symm))

theorem first_least {zs ss : List Int} {m : Nat} (hl : zs.length = m + 1) (hh : HeapN zs (m + 1)) (h1 : ss.Perm zs) (h2 : Asc ss) : ss.getD 0 0 = zs.getD 0 0 := by
  have e : zs.take (m + 1) = zs := List.take_of_length_le (by omega)
  have hmin := heap_least zs (m + 1) (by omega) hh
  rw [e] at hmin
  have hmem : zs.getD 0 0 ∈ zs := by rw [gd_get zs 0 (by omega)]; exact List.getElem_mem _
  cases ss with
  | nil => have := h1.length_eq; simp at this; omega
  | cons a r =>
    show a = zs.getD 0 0
    have h3 := hmin a (h1.mem_iff.1 (by simp))
    rcases List.mem_cons.1 (h1.mem_iff.2 hmem) with h4 | h4
    · exact h4.symm
    · have := (List.pairwise_cons.1 h2).1 _ h4
      omega

theorem grown_below {w w' : World} {g B : Nat} {w0 : World} (hb : Below B w0 w) (hg : w.grownBy w' (some g)) (hB : B ≤ w.heap.size) (h : B ≤ g) : Below B w0 w' :=
  hb.grown hg hB (fun k e => by obtain rfl := Option.some.inj e; exact h)

set_option maxHeartbeats 3200000 in
set_option maxRecDepth 100000 in
theorem least_any (a0 : Option Addr) (cap0 : Nat) (zs : List Int) (w : World) (hrd : Rd (Value.int .i32) 0 w (.slice a0 zs.length cap0) zs) :
    Calls Try.prog 3 #[.slice a0 zs.length cap0] w fun e w' => e = .returned (.bool true) ∧ Below w.heap.size w w' := by
  have hz := hrd.len
  by_cases hn : zs.length ≤ 1048576
  · by_cases hn2 : zs.length ≤ 262144
    · by_cases hn0 : zs.length = 0
      · rw [hn0]
        go_enter Try.func3, Try.ntmps3
        go_wp2_with fail
        refine (bytes8 _ _ _ _ (by omega)).mono ?_
        rintro e w' ⟨rfl, rfl⟩
        go_wp2_with fail
        go_ret
        exact ⟨rfl, Below.refl _ _⟩
      · obtain ⟨m, hm⟩ : ∃ m, zs.length = m + 1 := ⟨zs.length - 1, by omega⟩
        rw [hm] at hrd hn2 ⊢
        have HZ : Hid (zs.length = m + 1) := hm
        clear hn hn0 hz hm
        have hm0 : ((m : Int) + 1 == 0) = false := by simp; omega
        have d1 : decide ((262144 : Int) < (m : Int) + 1) = false := decide_eq_false (by omega)
        have e1 : (m : Int) + 1 - 1 = (m : Int) := by omega
        go_enter Try.func3, Try.ntmps3
        go_wp2_with fail
        refine (bytes8 _ _ _ _ (by omega)).mono ?_
        rintro e w' ⟨rfl, rfl⟩
        go_wp2_with fail
        refine (heap_any a0 (m + 1) cap0 zs w HZ.out (by omega) hrd).mono ?_
        rintro e w1 ⟨b, rfl, hb, hbel1⟩
        cases b with
        | false =>
          clear hb
          go_wp2_with fail
          go_ret
          exact ⟨rfl, hbel1⟩
        | true =>
          have HH : Hid (HeapN zs (m + 1)) := hb.1 rfl
          clear hb
          go_wp2_with fail
          refine (clone_n _ (m + 1) zs w1 HZ.out (by omega) (hrd.below hbel1)).mono ?_
          rintro e w2 ⟨ao, rfl, hown, hb2⟩
          obtain ⟨g, rfl, hrow2, hg2⟩ := own_some hown (by omega)
          have hbel2 : Below w.heap.size w w2 := hbel1.trans (hb2.mono hbel1.size)
          have hgw : w.heap.size ≤ g := Nat.le_trans hbel1.size hg2
          clear hown hb2 hg2 hbel1
          go_wp2_with fail
          refine (zzpop_any g m (m + 1) zs w2 (by omega) (Nat.le_refl _) HZ.out HH.out hrow2).mono ?_
          rintro e w3 ⟨rfl, M, hML, hMH, hMP, hrow3, hgr⟩
          have hbel3 : Below w.heap.size w w3 := grown_below hbel2 hgr hbel2.size hgw
          have HML : Hid (M.length = m + 1) := hML
          have HMH : Hid (HeapN M m) := hMH
          have HMP : Hid ((zs.getD 0 0 :: M.take m).Perm (zs.take (m + 1))) := hMP
          obtain ⟨least, hle⟩ : ∃ x, x = zs.getD 0 0 := ⟨_, rfl⟩
          rw [← hle]
          have HLE : Hid (least = zs.getD 0 0) := hle
          clear hML hMH hMP hgr hrow2 hbel2 hle
          go_wp2_with fail
          refine (sort_n a0 (m + 1) cap0 zs w3 HZ.out (by omega) (hrd.below hbel3)).mono ?_
          rintro e w4 ⟨ss, gs, rfl, hrs, hsp, hsa, hb4⟩
          have hbel4 : Below w.heap.size w w4 := hbel3.trans (hb4.mono hbel3.size)
          have hrow4 := hrow3.below hb4 hrow3.lt
          have hsl : ss.length = m + 1 := by rw [hsp.length_eq]; exact HZ.out
          have HSL : Hid (ss.length = m + 1) := hsl
          have HSP : Hid (ss.Perm zs) := hsp
          have HSA : Hid (Asc ss) := hsa
          have hs0 := hrs.cell 0 (by omega)
          have hsl0 : ss.getD 0 0 = least := by rw [HLE.out]; exact first_least HZ.out HH.out hsp hsa
          rw [hsl0] at hs0
          clear hsl hsp hsa hbel3 hb4 hrow3 hsl0
          go_wp2_with fail
          have htl : (M.take m).length = m := by rw [List.length_take, HML.out]; omega
          have HTL : Hid ((M.take m).length = m) := htl
          have hrt : Rd (Value.int .i32) 0 w4 (.slice (some ⟨g, 0, none⟩) m (m + 1)) (M.take m) := by
            have h := hrow4.rdTake (by rw [HML.out]; unfold maxLen; omega) m (by rw [HML.out]; omega)
            rw [HML.out] at h
            exact h
          clear htl
          refine (heap_any (some ⟨g, 0, none⟩) m (m + 1) (M.take m) w4 HTL.out (by omega) hrt).mono ?_
          rintro e w5 ⟨b, rfl, hb, hb5⟩
          cases b with
          | false => exact absurd (hb.2 (heapN_take M m HMH.out)) (by simp)
          | true =>
            have hbel5 : Below w.heap.size w w5 := hbel4.trans (hb5.mono hbel4.size)
            have hrt5 := hrt.below hb5
            have hrs5 := hrs.below hb5 hrs.lt
            clear hb hb5 hbel4 hrow4 hrt hrs hs0
            go_wp2_with fail
            refine (sort_n (some ⟨g, 0, none⟩) m (m + 1) (M.take m) w5 HTL.out (by omega) hrt5).mono ?_
            rintro e w6 ⟨tt, gt, rfl, hrt6, htp, hta, hb6⟩
            have hbel6 : Below w.heap.size w w6 := hbel5.trans (hb6.mono hbel5.size)
            have hrs6 := hrs5.below hb6 hrs5.lt
            have HTT : Hid (tt.length = m) := by show tt.length = m; rw [htp.length_eq]; exact HTL.out
            have HEQ : Hid (ss = zs.getD 0 0 :: tt) := pop_sorted HZ.out HH.out HMP.out HSP.out HSA.out htp hta
            clear htp hta hb6 hbel5 hrt5 hrs5
            go_wp2_with fail
            go_loopw [8] (fun iv wr => (∃ k : Nat, k ≤ m ∧ iv = .int .i64 k) ∧ Below w6.heap.size w6 wr) (fun iv _ => m - (intOf iv).toNat)
            case atStart => exact ⟨⟨0, Nat.zero_le _, rfl⟩, Below.refl _ _⟩
            case round =>
              obtain ⟨⟨k, hk, rfl⟩, hq⟩ := hrel
              by_cases hlt : k < m
              · have h1 := (hrt6.below hq hrt6.lt).cell k (by rw [HTT.out]; exact hlt)
                have h2 := (hrs6.below hq hrs6.lt).cell (k + 1) (by rw [HSL.out]; omega)
                have h3 : ss.getD (k + 1) 0 = tt.getD k 0 := by rw [HEQ.out]; rfl
                rw [h3] at h2
                obtain ⟨c, hcd⟩ : ∃ c, c = tt.getD k 0 := ⟨_, rfl⟩
                rw [← hcd] at h1 h2
                clear hcd h3
                go_wp2
                go_quiet (fail)
                go_wp2
                go_roundw
                case rel => exact ⟨⟨k + 1, by omega, by go_num⟩, below_drewN hq _⟩
                case measure => simp [intOf]; omega
              · go_wp2
                go_ret
                exact ⟨rfl, hbel6.trans (hq.mono hbel6.size)⟩
    · go_enter Try.func3, Try.ntmps3
      go_wp2_with fail
      refine (bytes8 _ _ _ _ (by omega)).mono ?_
      rintro e w' ⟨rfl, rfl⟩
      go_wp2_with fail
      go_ret
      exact ⟨rfl, Below.refl _ _⟩
  · go_enter Try.func3, Try.ntmps3
    go_wp2_with fail
    refine (bytes8_no _ _ _ _ (by omega)).mono ?_
    rintro e w' ⟨rfl, rfl⟩
    go_wp2_with fail
    go_ret
    exact ⟨rfl, Below.refl _ _⟩

end Go.Proofs.Qxb6602066a
