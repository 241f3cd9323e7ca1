/-
  SEAT b6602066a: the walk of FnAppendKeptIsDstThenRankedPlaces (function 5).
-/
import Derived.Test.Qxb6602066aKept
import Derived.Laws.CopyOwn
import Derived.WalkSpells
import Derived.WalkSmall
import Derived.Deep.QuietTactic
import Derived.BigQuiet
namespace Go.Proofs.Qxb6602066a
open Go.RowKit

theorem Try.size4 : (Try.prog.info? 4).map (·.size) = some 1 := by kernel_rfl

/-- A row of the call's own, written out. -/
theorem own_heap {w : World} {B g n : Nat} {e : TypeId} {xs : List Value} (h : w.ownsRow B e 1 (.slice (some ⟨g, 0, none⟩) n n) n xs) : w.heap[g]? = some (.cells xs.toArray e (0, 0)) := by
  rcases h.2 with ⟨h', _⟩ | ⟨g', cap', cur, h', _, hg, _, _, hcs, htake⟩
  · simp at h'
  · simp only [Value.slice.injEq, Option.some.injEq, Addr.mk.injEq, and_true, true_and] at h'
    obtain ⟨rfl, rfl⟩ := h'
    rw [← htake, List.take_of_length_le (by rw [Array.length_toList, hcs]; exact Nat.le_refl _), Array.toArray_toList]
    exact hg

theorem rd_of_heap {α : Type} {f : α → Value} {d : α} {w : World} {g : Nat} {e : TypeId} {zs : List α} (hm : zs.length ≤ maxLen) (h : w.heap[g]? = some (.cells (zs.map f).toArray e (0, 0))) : Rd f d w (.slice (some ⟨g, 0, none⟩) zs.length zs.length) zs := by
  refine ⟨_, _, rfl, Nat.le_refl _, hm, fun h => (by cases h), fun _ => ⟨g, 0, rfl, fun i hi => ?_⟩⟩
  rw [Nat.zero_add, cell_of_row w g i _ e (0, 0) h]
  simp [List.getD, hi]

theorem splice_all {α : Type} (L cs : List α) (h : L.length = cs.length) : splice L 0 cs = cs := by
  simp [splice, ← h]

/-- What the ranks' row gives the round: its cell k, its cell k + 1, that this may be written. -/
theorem rank_read {wr : World} {B g n k : Nat} {bs : List Bool} (hk : k < n) (h : wr.ownsRow B 3 1 (.slice (some ⟨g, 0, none⟩) (n + 1) (n + 1)) (n + 1) ((rnk bs n k).map (Value.int .i64))) :
    wr.cell? ⟨g, k, none⟩ = some (.int .i64 ((idx bs k).length : Nat)) ∧ (∃ u, wr.cell? ⟨g, k + 1, none⟩ = some u) ∧ wr.frozen? ⟨g, k + 1, none⟩ = false := by
  have h0 := h.cellAt k (by omega)
  have h1 := h.cellAt (k + 1) (by omega)
  have e0 := rnk_at bs n k k (by omega) (Nat.le_refl _)
  rw [List.getElem?_map, List.getElem?_eq_getElem (by rw [rnk_length]; omega)] at h0 h1
  refine ⟨?_, ⟨_, h1⟩, h.frozenAt (k + 1)⟩
  rw [h0]
  simp only [List.getD, List.getElem?_eq_getElem (show k < (rnk bs n k).length by rw [rnk_length]; omega), Option.getD_some] at e0
  simp [e0]

theorem rank_miss {w5 wr : World} {B g n k : Nat} {bs : List Bool} (hb : bs.getD k false = false) (hg : B ≤ g) (h : wr.ownsRow B 3 1 (.slice (some ⟨g, 0, none⟩) (n + 1) (n + 1)) (n + 1) ((rnk bs n k).map (Value.int .i64))) (hbel : Below B w5 wr) :
    (wr.setCell ⟨g, k + 1, none⟩ (.int .i64 ((idx bs k).length : Nat))).ownsRow B 3 1 (.slice (some ⟨g, 0, none⟩) (n + 1) (n + 1)) (n + 1) ((rnk bs n (k + 1)).map (Value.int .i64)) ∧ Below B w5 (wr.setCell ⟨g, k + 1, none⟩ (.int .i64 ((idx bs k).length : Nat))) := by
  refine ⟨?_, hbel.setCell hg _⟩
  have h1 := (h.stored (k + 1) (.int .i64 ((idx bs (k + 1)).length : Nat))).1
  rw [← List.map_set, rnk_set] at h1
  rwa [idx_miss bs k hb] at h1

theorem rank_hit {w5 wr : World} {B g n k : Nat} {bs : List Bool} {x : Value} (hb : bs.getD k false = true) (hg : B ≤ g) (h : wr.ownsRow B 3 1 (.slice (some ⟨g, 0, none⟩) (n + 1) (n + 1)) (n + 1) ((rnk bs n k).map (Value.int .i64))) (hbel : Below B w5 wr) :
    ((wr.setCell ⟨g, k + 1, none⟩ x).setCell ⟨g, k + 1, none⟩ (.int .i64 (((idx bs k).length : Nat) + 1))).ownsRow B 3 1 (.slice (some ⟨g, 0, none⟩) (n + 1) (n + 1)) (n + 1) ((rnk bs n (k + 1)).map (Value.int .i64)) ∧
      Below B w5 ((wr.setCell ⟨g, k + 1, none⟩ x).setCell ⟨g, k + 1, none⟩ (.int .i64 (((idx bs k).length : Nat) + 1))) := by
  refine ⟨?_, (hbel.setCell hg _).setCell hg _⟩
  have h1 := (((h.stored (k + 1) x).1).stored (k + 1) (.int .i64 ((idx bs (k + 1)).length : Nat))).1
  rw [List.set_set, ← List.map_set, rnk_set] at h1
  have e : (((idx bs (k + 1)).length : Nat) : Int) = ((idx bs k).length : Nat) + 1 := by rw [idx_hit bs k hb]; simp
  rwa [e] at h1

set_option maxHeartbeats 3200000 in
set_option maxRecDepth 100000 in
theorem ranked_any (a0 : Option Addr) (cap0 : Nat) (zs : List Int) (a1 : Option Addr) (cap1 : Nat) (bs : List Bool) (w : World) (hrd : Rd (Value.int .i32) 0 w (.slice a0 zs.length cap0) zs) (hrk : Rd Value.bool false w (.slice a1 bs.length cap1) bs) :
    Calls Try.prog 5 #[.slice a0 zs.length cap0, .slice a1 bs.length cap1] w fun e w' => e = .returned (.bool true) ∧ Below w.heap.size w w' := by
  have hz := hrd.len
  have hy := hrk.len
  by_cases hn : zs.length + bs.length ≤ 1048576
  · by_cases hn2 : zs.length ≤ 131072
    · by_cases hn3 : bs.length ≤ 524288
      · have q27 : ∀ (w : World) (a : Option Addr) (n c n' c' : Nat), (binOp .neq 27 (.slice a n c) (.slice none n' c')).run Try.prog w = .ok (.bool (!a.isNone)) w := fun w a n c n' c' => run_neq_slice_nil_any w _ _ a n c n' c' Try.underlying27
        obtain ⟨i0, hi, hz0, hz1, hz2⟩ := info_parts Try.info4
        have d1 : decide ((131072 : Int) < (zs.length : Int)) = false := decide_eq_false (by omega)
        have d2 : decide ((524288 : Int) < (bs.length : Int)) = false := decide_eq_false (by omega)
        obtain ⟨j0, hj, hj0, hj1, hj2⟩ := info_parts Try.info3
        have hlg : (zs ++ idx bs bs.length).length = zs.length + (idx bs bs.length).length := by simp
        have hil := idx_le bs bs.length
        by_cases ha : a1.isNone = true
        focus
          go_enter Try.func5, Try.ntmps5
          go_wp2_with fail
          refine (bytes14 _ _ _ _ _ _ _ (by omega)).mono ?_
          rintro e w' ⟨rfl, rfl⟩
          have hbel3 : Below w.heap.size w w := Below.refl _ _
          have hrk3 := hrk
          clear hrk
          go_wp2_with fail
          clear ha q27
        rotate_left
        focus
          obtain ⟨x, rfl⟩ : ∃ x, a1 = some x := by
            cases a1 with
            | none => simp at ha
            | some x => exact ⟨x, rfl⟩
          clear ha
          go_enter Try.func5, Try.ntmps5
          go_wp2_with fail
          refine (bytes14 _ _ _ _ _ _ _ (by omega)).mono ?_
          rintro e w' ⟨rfl, rfl⟩
          go_wp2_with (at_make; refine wpList_make_full _ rfl _ _ 27 rfl w.heap.size 4 i0 (.bool false) 1 Try.underlying27 hi hz0 hz1 _ _ _ _ bs.length rfl rfl rfl rfl ?b1 ?b2 ?b3 ?_)
          case b1 => rw [hz2]; omega
          case b2 => unfold maxLen; omega
          case b3 => exact Nat.le_refl _
          intro w1 hown hgrow
          have hbel : Below w.heap.size w w1 := (Below.refl _ _).grown hgrow (Nat.le_refl _) (fun k h => by cases h)
          obtain ⟨L, hLl, hg1⟩ : ∃ L : List Value, L.length = bs.length ∧ w1.heap[w.heap.size]? = some (.cells L.toArray 4 (0, 0)) := ⟨_, by simpa using hown.1, own_heap hown⟩
          clear hown hgrow
          have HP : Hid (0 < (bs.map Value.bool).length → some (⟨w.heap.size, 0, none⟩ : Addr) = some ⟨w.heap.size, 0, none⟩ ∧ ∃ ad, some x = some ad ∧ ∀ j v, (bs.map Value.bool)[j]? = some v → w1.cell? (ad.add j) = some v) := by
            intro h0
            refine ⟨rfl, x, rfl, fun j v hj => ?_⟩
            obtain ⟨b, off, hx, _, hc⟩ := (hrk.below hbel).at (by simpa using h0)
            obtain rfl := Option.some.inj hx
            have hjl : j < bs.length := by
              have := (List.getElem?_eq_some_iff.1 hj).1
              simpa using this
            rw [Addr.add_lit, hc j hjl]
            rw [List.getElem?_map, List.getElem?_eq_getElem hjl] at hj
            simp at hj
            simp [List.getD, hjl, ← hj]
          have HG : Hid (w1.heap[w.heap.size]? = some (.cells L.toArray 4 (0, 0))) := hg1
          have HLL : Hid (L.length = bs.length) := hLl
          clear hg1 hLl
          go_wp2_with (refine wpList_copy_splice rfl (.tmp 29) (.tmp 30) 27 27 rfl 4 Try.underlying27 Try.size4 _ _ _ _ _ _ rfl rfl w.heap.size 0 L 4 HG.out (bs.map Value.bool) ?cn HP.out ?cf ?cc w.heap.size w hbel (Nat.le_refl _) ?_)
          case cf => have := HLL.out; simp; omega
          case cc =>
            intro u hu
            cases u <;> simp_all [Value.oneCell']
          intro w3 HS hbel3
          have hrk3 : Rd Value.bool false w3 (.slice (some ⟨w.heap.size, 0, none⟩) bs.length bs.length) bs := by
            have h1 := HS.out
            rw [splice_all _ _ (by rw [HLL.out]; simp)] at h1
            exact rd_of_heap (by unfold maxLen; omega) h1
          clear HS HG HLL HP hbel hrk L q27
          go_wp2_with fail
          generalize (some (⟨w.heap.size, 0, none⟩ : Addr)) = aK at hrk3 ⊢
        all_goals
          refine (clone_any _ zs _ (by omega) (hrd.below hbel3)).mono ?_
          rintro e w4 ⟨ao, rfl, hown4, hb4⟩
          have hbel4 : Below w.heap.size w w4 := hbel3.trans (hb4.mono hbel3.size)
          have hD4 : Rd (Value.int .i32) 0 w4 (.slice ao zs.length zs.length) zs := Rd.own hown4
          have hrk4 := hrk3.below hb4
          clear hbel3 hrk3 hb4 hown4
          go_wp2_with fail
          refine (zzkept_any ao zs _ _ bs w4 (by omega) (by omega) hD4 hrk4).mono ?_
          rintro e w5 ⟨v5, rfl, hG5, hb5⟩
          have hbel5 : Below w.heap.size w w5 := hbel4.trans (hb5.mono hbel4.size)
          have hrk5 := hrk4.below hb5
          have hdst5 := hrd.below hbel5
          obtain ⟨aG, cG, rfl, _, _, _, _⟩ := id hG5
          rw [hlg] at hG5 ⊢
          clear hbel4 hrk4 hb5 hD4 hrd
          go_wp2_with (at_make; refine wpList_make_full _ rfl _ _ 30 rfl w5.heap.size 3 j0 (.int .i64 0) 1 Try.underlying30 hj hj0 hj1 _ _ _ _ (bs.length + 1) rfl rfl ?b4 ?b5 ?b6 ?b7 ?b8 ?_)
          case b4 => omega
          case b5 => omega
          case b6 => rw [hj2]; omega
          case b7 => unfold maxLen; omega
          case b8 => exact Nat.le_refl _
          intro w6 hown6 hgrow6
          have hb6 : Below w5.heap.size w5 w6 := (Below.refl _ _).grown hgrow6 (Nat.le_refl _) (fun k h => by cases h)
          have hownr : w6.ownsRow w5.heap.size 3 1 (.slice (some ⟨w5.heap.size, 0, none⟩) (bs.length + 1) (bs.length + 1)) (bs.length + 1) ((rnk bs bs.length 0).map (Value.int .i64)) := by
            rw [rnk_zero]; simpa [Value.cells, toList_madeCells_one] using hown6
          clear hown6 hgrow6
          go_wp2
          go_loopw [9] (fun i wr => ∃ k : Nat, k ≤ bs.length ∧ i = .int .i64 k ∧ wr.ownsRow w5.heap.size 3 1 (.slice (some ⟨w5.heap.size, 0, none⟩) (bs.length + 1) (bs.length + 1)) (bs.length + 1) ((rnk bs bs.length k).map (Value.int .i64)) ∧ Below w5.heap.size w5 wr) (fun i _ => bs.length - (intOf i).toNat)
          case atStart => exact ⟨0, Nat.zero_le _, rfl, hownr, hb6⟩
          case round =>
            clear hownr hb6
            obtain ⟨k, hk, rfl, hown, hb⟩ := hrel
            have hik := idx_le bs k
            by_cases hlt : k < bs.length
            · obtain ⟨b, off, rfl, hbw, hc⟩ := hrk5.at (by omega)
              have hck := hc k hlt
              rw [← hb.cell (p := ⟨b, off + k, none⟩) hbw] at hck
              have hne : ¬ w5.heap.size = b := by omega
              have hne2 : ¬ b = w5.heap.size := by omega
              obtain ⟨hr0, ⟨old, hr1⟩, hfz⟩ := rank_read hlt hown
              obtain ⟨c, hcd⟩ : ∃ c, c = bs.getD k false := ⟨_, rfl⟩
              rw [← hcd] at hck
              clear hc
              cases c with
              | false =>
                have R := rank_miss hcd.symm (Nat.le_refl _) hown hb
                clear hown hb hcd
                go_wp2
                go_roundw
                case rel => exact ⟨k + 1, by omega, by go_num, R.1, R.2⟩
                case measure => simp [intOf]; omega
              | true =>
                have R := rank_hit (x := .int .i64 ((idx bs k).length : Nat)) hcd.symm (Nat.le_refl _) hown hb
                clear hown hb hcd
                go_wp2
                go_roundw
                case rel => exact ⟨k + 1, by omega, by go_num, R.1, R.2⟩
                case measure => simp [intOf]; omega
            · have hke : k = bs.length := by omega
              subst hke
              have hR : Rd (Value.int .i64) 0 wr (.slice (some ⟨w5.heap.size, 0, none⟩) (bs.length + 1) (bs.length + 1)) (rnk bs bs.length bs.length) := Rd.own (e := 3) (base := w5.heap.size) (by rw [rnk_length]; exact hown)
              have hG := hG5.below hb
              have hK := hrk5.below hb
              have hdst := hdst5.below hb
              have hbel : Below w.heap.size w wr := hbel5.trans (hb.mono hbel5.size)
              obtain ⟨bR, oR, hRe, hbR, hcR⟩ := hR.at (by rw [rnk_length]; omega)
              have hcN := hcR bs.length (by rw [rnk_length]; omega)
              rw [rnk_at bs bs.length bs.length bs.length (Nat.le_refl _) (Nat.le_refl _)] at hcN
              simp only [Option.some.injEq, Addr.mk.injEq, and_true] at hRe
              obtain ⟨rfl, rfl⟩ := hRe
              rw [Nat.zero_add] at hcN
              have HR : Hid (∀ x : Nat, x ≤ bs.length → wr.cell? ⟨w5.heap.size, x, none⟩ = some (.int .i64 ((idx bs x).length : Nat))) := by
                intro x hx
                have := hcR x (by rw [rnk_length]; omega)
                rw [rnk_at bs bs.length bs.length x hx hx, Nat.zero_add] at this
                exact this
              clear hown hb hrk5 hG5 hdst5 hbel5 hcR hR hlt hk hik
              go_wp2
              go_loopw [11] (fun i wq => (∃ k : Nat, k ≤ zs.length ∧ i = .int .i64 k) ∧ Below wr.heap.size wr wq) (fun i _ => zs.length - (intOf i).toNat)
              case atStart => exact ⟨⟨0, Nat.zero_le _, rfl⟩, Below.refl _ _⟩
              case round =>
                obtain ⟨⟨k, hk, rfl⟩, hq⟩ := hrel
                by_cases hlt : k < zs.length
                · obtain ⟨b1, o1, rfl, hb1, hc1⟩ := hG.at (by omega)
                  obtain ⟨b2, o2, rfl, hb2, hc2⟩ := hdst.at (by omega)
                  have h1 := hc1 k (by omega)
                  have h2 := hc2 k hlt
                  rw [← hq.cell (p := ⟨b1, o1 + k, none⟩) hb1, gd_left _ _ _ _ hlt] at h1
                  rw [← hq.cell (p := ⟨b2, o2 + k, none⟩) hb2] at h2
                  obtain ⟨c, hcd⟩ : ∃ c, c = zs.getD k 0 := ⟨_, rfl⟩
                  rw [← hcd] at h1 h2
                  clear hcd hc1 hc2 hG hK hdst hbel hcN
                  go_wp2
                  go_quiet (fail)
                  go_wp2
                  go_roundw
                  case rel => exact ⟨⟨k + 1, by omega, by go_num⟩, below_drewN hq _⟩
                  case measure => simp [intOf]; omega
                · have hG2 := hG.below hq
                  have hK2 := hK.below hq
                  have hbel2 := hbel.trans (hq.mono hbel.size)
                  have HR2 : Hid (∀ x : Nat, x ≤ bs.length → wr.cell? ⟨w5.heap.size, x, none⟩ = some (.int .i64 ((idx bs x).length : Nat))) := by
                    intro x hx
                    rw [hq.cell (World.block_lt_of_cell? _ _ (HR.out x hx))]
                    exact HR.out x hx
                  clear hG hK hdst hbel HR hq hcN
                  go_wp2
                  go_loop [12] (fun i => ∃ j : Nat, j ≤ (idx bs bs.length).length ∧ i = .int .i64 j) (fun i => (idx bs bs.length).length - (intOf i).toNat)
                  case atStart => exact ⟨0, Nat.zero_le _, rfl⟩
                  case round =>
                    obtain ⟨j, hj3, rfl⟩ := hrel
                    by_cases hjl : j < (idx bs bs.length).length
                    · obtain ⟨x, hx1, hx2, hx3, hx4⟩ := idx_at bs bs.length j hjl
                      obtain ⟨b1, o1, rfl, hb1, hc1⟩ := hG2.at (by omega)
                      obtain ⟨b2, o2, rfl, hb2, hc2⟩ := hK2.at (by omega)
                      have h1 := hc1 (zs.length + j) (by omega)
                      have h2 := hc2 x hx2
                      have h3 := HR2.out x (by omega)
                      rw [gd_right _ _ _ _ (by omega), show zs.length + j - zs.length = j by omega, hx1] at h1
                      rw [hx3] at h2
                      rw [hx4] at h3
                      clear hx1 hx3 hx4 hc1 hc2 HR2 hG2 hK2
                      go_wp2
                      go_round
                      case rel => exact ⟨j + 1, by omega, by go_num⟩
                      case measure => simp [intOf]; omega
                    · go_wp2
                      go_ret
                      exact ⟨rfl, hbel2⟩
      · go_enter Try.func5, Try.ntmps5
        go_wp2_with fail
        refine (bytes14 _ _ _ _ _ _ _ (by omega)).mono ?_
        rintro e w' ⟨rfl, rfl⟩
        go_wp2_with fail
        go_ret
        exact ⟨rfl, Below.refl _ _⟩
    · go_enter Try.func5, Try.ntmps5
      go_wp2_with fail
      refine (bytes14 _ _ _ _ _ _ _ (by omega)).mono ?_
      rintro e w' ⟨rfl, rfl⟩
      go_wp2_with fail
      go_ret
      exact ⟨rfl, Below.refl _ _⟩
  · go_enter Try.func5, Try.ntmps5
    go_wp2_with fail
    refine (bytes14_no _ _ _ _ _ _ _ (by omega) (by omega) (by omega)).mono ?_
    rintro e w' ⟨rfl, rfl⟩
    go_wp2_with fail
    go_ret
    exact ⟨rfl, Below.refl _ _⟩

end Go.Proofs.Qxb6602066a
