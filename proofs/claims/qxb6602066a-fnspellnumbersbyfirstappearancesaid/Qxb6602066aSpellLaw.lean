/-
  SEAT b6602066a: the walk of FnSpellNumbersByFirstAppearance (function 7).
-/
import Derived.Test.Qxb6602066aCalls
import Derived.Deep.RegionWith
import Derived.Deep.DeepCutAuto
import Derived.BigRegion
namespace Go.Proofs.Qxb6602066a
open Go.RowKit

/-- The block g of w is a row of int cells, none frozen: the numbers L. -/
def Row3 (w : World) (g : Nat) (L : List Int) : Prop := w.heap[g]? = some (.cells (L.map (Value.int .i64)).toArray 3 (0, 0))

section
variable {w w' : World} {g : Nat} {L : List Int}

theorem Row3.lt (h : Row3 w g L) : g < w.heap.size := (Array.getElem?_eq_some_iff.1 h).1
theorem Row3.cell (h : Row3 w g L) (j : Nat) (hj : j < L.length) : w.cell? ⟨g, j, none⟩ = some (.int .i64 (L.getD j 0)) := by
  rw [cell_of_row w g j _ 3 (0, 0) h]
  simp [List.getD, hj]
theorem Row3.frozen (h : Row3 w g L) (j : Nat) : w.frozen? ⟨g, j, none⟩ = false := frozen_of_row w g j _ 3 h
theorem Row3.set (h : Row3 w g L) (j : Nat) (x : Int) : Row3 (w.setCell ⟨g, j, none⟩ (.int .i64 x)) g (L.set j x) := by
  unfold Row3
  rw [heap_setCell_same w g j _ 3 _ h]
  simp [List.map_set]
theorem Row3.other (h : Row3 w g L) (a : Addr) (u : Value) (hne : g ≠ a.block) : Row3 (w.setCell a u) g L := by
  unfold Row3
  rw [Below.heap_setCell _ _ _ _ hne]; exact h
theorem Row3.below {B : Nat} (h : Row3 w g L) (hb : Below B w w') (hg : g < B) : Row3 w' g L := by
  unfold Row3
  rw [hb.block g hg]; exact h
theorem Row3.drewN (h : Row3 w g L) (n : Nat) : Row3 (w.drewN n) g L := h
theorem Row3.alloc (h : Row3 w g L) (o : Obj) : Row3 (w.alloc o) g L := h.below ((Below.refl w.heap.size w).alloc (Nat.le_refl _) o) h.lt

theorem Row3.rd (h : Row3 w g L) (hm : L.length ≤ maxLen) : Rd (Value.int .i64) 0 w (.slice (some ⟨g, 0, none⟩) L.length L.length) L :=
  ⟨_, _, rfl, Nat.le_refl _, hm, fun h => (by cases h), fun _ => ⟨g, 0, rfl, fun i hi => by rw [Nat.zero_add]; exact h.cell i hi⟩⟩

/-- The first n of the row, with spare room behind them. -/
theorem Row3.rdTake (h : Row3 w g L) (hm : L.length ≤ maxLen) (n : Nat) (hn : n ≤ L.length) : Rd (Value.int .i64) 0 w (.slice (some ⟨g, 0, none⟩) n L.length) (L.take n) :=
  (h.rd hm).taken hn

theorem Row3.own {B n : Nat} (h : w.ownsRow B 3 1 (.slice (some ⟨g, 0, none⟩) n n) n (L.map (Value.int .i64))) : Row3 w g L ∧ B ≤ g := by
  rcases h.2 with ⟨h', _⟩ | ⟨g', cap', cur, h', hb, hg, _, _, hcs, htake⟩
  · simp at h'
  · simp only [Value.slice.injEq, Option.some.injEq, Addr.mk.injEq, and_true, true_and] at h'
    obtain ⟨rfl, rfl⟩ := h'
    refine ⟨?_, hb⟩
    unfold Row3
    rw [← htake, List.take_of_length_le (by rw [Array.length_toList, hcs]; exact Nat.le_refl _), Array.toArray_toList]
    exact hg
end

/-- The numbers that the calls give back; the first places. -/
def nmL (cs : List (Int × ByteArray)) (n : Nat) : List Int := (List.range n).map fun i => ((nm cs i : Nat) : Int)
def fsL (cs : List (Int × ByteArray)) (n : Nat) : List Int := (List.range n).map fun i => ((ix cs (cl cs i).1 : Nat) : Int)
theorem nmL_length (cs : List (Int × ByteArray)) (n : Nat) : (nmL cs n).length = n := by simp [nmL]
theorem fsL_length (cs : List (Int × ByteArray)) (n : Nat) : (fsL cs n).length = n := by simp [fsL]
theorem nmL_at (cs : List (Int × ByteArray)) (n i : Nat) (h : i < n) : (nmL cs n).getD i 0 = ((nm cs i : Nat) : Int) := by simp [nmL, List.getD, h]
theorem fsL_at (cs : List (Int × ByteArray)) (n i : Nat) (h : i < n) : (fsL cs n).getD i 0 = ((ix cs (cl cs i).1 : Nat) : Int) := by simp [fsL, List.getD, h]
theorem half_at (zs : List Int) (j i : Nat) (h : i < j) (hj : j ≤ zs.length) : (half zs j).getD i 0 = zs.getD i 0 := by
  simp [half, List.getD, List.getElem?_append, show i < zs.length by omega, show i < min j zs.length by omega]

/-- Behind the two stores of a round. -/
theorem two_stores {W w0 : World} {B gN gF i : Nat} {A C : List Int} {x y : Int} (hN : Row W gN A) (hF : Row3 W gF C) (hne : gN < gF) (hB : B ≤ gN) (hb : Below B w0 W) :
    Row ((W.setCell ⟨gF, i, none⟩ (.int .i64 x)).setCell ⟨gN, i, none⟩ (.int .i32 y)) gN (A.set i y) ∧
    Row3 ((W.setCell ⟨gF, i, none⟩ (.int .i64 x)).setCell ⟨gN, i, none⟩ (.int .i32 y)) gF (C.set i x) ∧
    Below B w0 ((W.setCell ⟨gF, i, none⟩ (.int .i64 x)).setCell ⟨gN, i, none⟩ (.int .i32 y)) :=
  ⟨(hN.other ⟨gF, i, none⟩ _ (by simp; omega)).set i y, (hF.set i x).other ⟨gN, i, none⟩ _ (by simp; omega), (hb.setCell (by simp; omega) _).setCell (by simpa using hB) _⟩

set_option maxHeartbeats 6400000 in
set_option maxRecDepth 100000 in
theorem spellLaw_any (a0 : Option Addr) (cap0 : Nat) (cs : List (Int × ByteArray)) (w : World) (hrd0 : RdC w (.slice a0 cs.length cap0) cs) :
    Calls Try.prog 7 #[.slice a0 cs.length cap0] w fun e w' => e = .returned (.bool true) ∧ Below w.heap.size w w' := by
  obtain ⟨n, hnz⟩ : ∃ n, cs.length = n := ⟨_, rfl⟩
  rw [hnz] at hrd0 ⊢
  have HN : Hid (cs.length = n) := hnz
  have HW : Hid (∀ i, i < cs.length → (Lit.int .i32 (cl cs i).1).wf = true) := by obtain ⟨_, _, _, h, _⟩ := hrd0; exact h
  clear hnz
  obtain ⟨i0, hi, hz0, hz1, hz2⟩ := info_parts Try.info21
  obtain ⟨j0, hj, hj0, hj1, hj2⟩ := info_parts Try.info3
  go_enter Try.func7, Try.ntmps7
  go_wp2_with fail
  refine (bytes17 a0 n cap0 cs w HN.out hrd0).mono ?_
  rintro e w' ⟨⟨b, rfl⟩, rfl⟩
  cases b with
  | false =>
    go_wp2_with fail
    go_ret
    exact ⟨rfl, Below.refl _ _⟩
  | true =>
    by_cases hn : n ≤ 4096
    · have d1 : decide ((4096 : Int) < (n : Int)) = false := decide_eq_false (by omega)
      go_wp2
      go_loop [3, 4] (fun z i => ∃ (k : Nat) (x : Int), k ≤ n ∧ i = .int .i64 k ∧ z = .int .i64 x) (fun _ i => n - (intOf i).toNat)
      case atStart => exact ⟨0, _, Nat.zero_le _, rfl, rfl⟩
      case round =>
        obtain ⟨k, x, hk, rfl, rfl⟩ := hrel
        by_cases hlt : k < n
        · obtain ⟨b, off, rfl, _, hc⟩ := hrd0.at (by rw [HN.out]; omega)
          obtain ⟨h1, h2⟩ := hc k (by rw [HN.out]; exact hlt)
          obtain ⟨t, ht⟩ : ∃ t, t = (cl cs k).2 := ⟨_, rfl⟩
          rw [← ht] at h2
          clear hc ht
          go_wp2
          · go_ret
            exact ⟨rfl, Below.refl _ _⟩
          · go_round
            case rel => exact ⟨k + 1, _, by omega, by go_num, rfl⟩
            case measure => simp [intOf]; omega
        · clear hk
          go_wp2_with (at_make; refine wpList_make_full _ rfl _ _ 22 rfl w.heap.size 21 i0 (.int .i32 0) 1 Try.underlying22 hi hz0 hz1 _ _ _ _ n rfl rfl rfl rfl (by rw [hz2]; omega) (by unfold maxLen; omega) (Nat.le_refl _) ?_)
          intro w1 hown1 hgr1
          have hb1 : Below w.heap.size w w1 := (Below.refl _ _).grown hgr1 (Nat.le_refl _) (fun k h => by cases h)
          have hrN1 : Row w1 w.heap.size (half (nmL cs n) 0) := by
            refine (Row.own (B := w.heap.size) (n := n) ?_).1
            rw [half_zero, nmL_length]; simpa [Value.cells, toList_madeCells_one] using hown1
          clear hown1 hgr1
          go_wp2_with (at_make; refine wpList_make_full _ rfl _ _ 30 rfl w1.heap.size 3 j0 (.int .i64 0) 1 Try.underlying30 hj hj0 hj1 _ _ _ _ n rfl rfl rfl rfl (by rw [hj2]; omega) (by unfold maxLen; omega) (Nat.le_refl _) ?_)
          intro w2 hown2 hgr2
          have hb2 : Below w1.heap.size w1 w2 := (Below.refl _ _).grown hgr2 (Nat.le_refl _) (fun k h => by cases h)
          have hrF2 : Row3 w2 w1.heap.size (half (fsL cs n) 0) := by
            refine (Row3.own (B := w1.heap.size) (n := n) ?_).1
            rw [half_zero, fsL_length]; simpa [Value.cells, toList_madeCells_one] using hown2
          have hrN2 := hrN1.below hb2 hrN1.lt
          have hbel2 : Below w.heap.size w w2 := hb1.trans (hb2.mono hb1.size)
          have hgF : w.heap.size < w1.heap.size := hrN1.lt
          obtain ⟨gN, hgN⟩ : ∃ g, g = w.heap.size := ⟨_, rfl⟩
          obtain ⟨gF, hgF0⟩ : ∃ g, g = w1.heap.size := ⟨_, rfl⟩
          rw [← hgN] at hrN2
          rw [← hgF0] at hrF2
          have hNF : gN < gF := by omega
          have hgN1 : w.heap.size ≤ gN := by omega
          rw [← hgN, ← hgF0]
          clear hown2 hgr2 hb1 hb2 hrN1 hgN hgF0 hgF
          go_wp2
          go_loopw [8, 9] (fun dv iv wr => ∃ i : Nat, i ≤ n ∧ iv = .int .i64 i ∧ dv = .int .i64 ((sp cs i).length : Nat) ∧ Row wr gN (half (nmL cs n) i) ∧ Row3 wr gF (half (fsL cs n) i) ∧ Below w.heap.size w wr) (fun _ iv _ => n - (intOf iv).toNat)
          case atStart => exact ⟨0, Nat.zero_le _, rfl, rfl, hrN2, hrF2, hbel2⟩
          case round =>
            clear hrN2 hrF2 hbel2
            obtain ⟨i, hin, rfl, rfl, hrN, hrF, hbel⟩ := hrel
            have hspl := sp_le cs i
            by_cases hlt : i < n
            · have hlN : (nmL cs n).length = n := nmL_length cs n
              have hlF : (fsL cs n).length = n := fsL_length cs n
              have HlN : Hid ((nmL cs n).length = n) := hlN
              have HlF : Hid ((fsL cs n).length = n) := hlF
              clear hlN hlF
              have hne1 : ¬ gF = gN := by omega
              have hne2 : ¬ gN = gF := by omega
              go_wp2
              go_loopw [10, 11] (fun fv jv wq => ∃ j : Nat, j ≤ i ∧ fv = .int .i64 i ∧ jv = .int .i64 j ∧ Hid (∀ q, q < j → (cl cs q).1 ≠ (cl cs i).1) ∧ Below wr.heap.size wr wq) (fun _ jv _ => i - (intOf jv).toNat)
              case atStart => exact ⟨0, Nat.zero_le _, rfl, rfl, fun q hq => absurd hq (Nat.not_lt_zero _), Below.refl _ _⟩
              case round =>
                obtain ⟨j, hji, rfl, rfl, HQ, hq⟩ := hrel
                have hN := hrN.below hq hrN.lt
                have hF := hrF.below hq hrF.lt
                have hbq := hbel.trans (hq.mono hbel.size)
                have holdN := hN.cell i (by rw [half_length _ _ (by rw [HlN.out]; omega), HlN.out]; exact hlt)
                have holdF := hF.cell i (by rw [half_length _ _ (by rw [HlF.out]; omega), HlF.out]; exact hlt)
                have hfzN := hN.frozen i
                have hfzF := hF.frozen i
                obtain ⟨oN, hoN⟩ : ∃ o, o = (half (nmL cs n) i).getD i 0 := ⟨_, rfl⟩
                obtain ⟨oF, hoF⟩ : ∃ o, o = (half (fsL cs n) i).getD i 0 := ⟨_, rfl⟩
                rw [← hoN] at holdN
                rw [← hoF] at holdF
                clear hoN hoF
                by_cases hjlt : j < i
                · obtain ⟨b, off, rfl, hbw, hc⟩ := (hrd0.below hbq).at (by rw [HN.out]; omega)
                  have hcj := (hc j (by rw [HN.out]; omega)).1
                  have hci := (hc i (by rw [HN.out]; exact hlt)).1
                  obtain ⟨pj, hpj⟩ : ∃ p, p = (cl cs j).1 := ⟨_, rfl⟩
                  obtain ⟨pi, hpi⟩ : ∃ p, p = (cl cs i).1 := ⟨_, rfl⟩
                  rw [← hpj] at hcj
                  rw [← hpi] at hci
                  have HPJ : Hid (pj = (cl cs j).1) := hpj
                  have HPI : Hid (pi = (cl cs i).1) := hpi
                  clear hpj hpi hc
                  by_cases heq : pj = pi
                  · have he : (cl cs j).1 = (cl cs i).1 := by rw [← HPJ.out, ← HPI.out]; exact heq
                    have hix : ix cs (cl cs i).1 = j := ix_first cs _ j (by rw [HN.out]; omega) HQ.out he
                    obtain ⟨hnm, hns⟩ := nm_same cs j i hjlt he
                    have hcell := hN.cell j (by rw [half_length _ _ (by rw [HlN.out]; omega), HlN.out]; omega)
                    rw [half_at _ _ _ hjlt (by rw [HlN.out]; omega), nmL_at cs n j (by omega)] at hcell
                    have hts := two_stores (i := i) (x := ((j : Nat) : Int)) (y := ((nm cs j : Nat) : Int)) hN hF hNF hgN1 hbq
                    have hsN := half_set (nmL cs n) i (by rw [HlN.out]; exact hlt)
                    have hsF := half_set (fsL cs n) i (by rw [HlF.out]; exact hlt)
                    rw [nmL_at cs n i hlt, hnm] at hsN
                    rw [fsL_at cs n i hlt, hix] at hsF
                    rw [hsN, hsF] at hts
                    obtain ⟨T1, T2, T3⟩ := hts
                    have HSP : Hid (sp cs (i + 1) = sp cs i) := sp_old cs i hns
                    have hb1 : (pj == pi) = true := by simpa using heq
                    have hb2 : ((j : Int) == (i : Int)) = false := by simp; omega
                    obtain ⟨y, hy⟩ : ∃ y, y = ((nm cs j : Nat) : Int) := ⟨_, rfl⟩
                    rw [← hy] at hcell T1 T2 T3
                    clear hy he hix hnm hns hsN hsF heq hN hF hbq hrN hrF HQ
                    go_wp2
                    go_quiet (fail)
                    go_wp2
                    go_roundw
                    case rel => exact ⟨i + 1, by omega, by go_num, by rw [HSP.out], T1, T2, ⟨T3.os, T3.tape, T3.output, T3.size, T3.block⟩⟩
                    case measure => simp [intOf]; omega
                  · have HQ2 : Hid (∀ q, q < j + 1 → (cl cs q).1 ≠ (cl cs i).1) := by
                      intro q hq2
                      by_cases e : q = j
                      · rw [e, ← HPJ.out, ← HPI.out]; exact heq
                      · exact HQ.out q (by omega)
                    have hb1 : (pj == pi) = false := by simpa using heq
                    clear heq hN hF hbq HQ
                    go_wp2
                    go_quiet (fail)
                    go_wp2
                    go_roundw
                    case rel => exact ⟨j + 1, by omega, rfl, by go_num, HQ2, below_drewN hq _⟩
                    case measure => simp [intOf]; omega
                · have hje : j = i := by omega
                  have hix : ix cs (cl cs i).1 = i := ix_first cs _ i (by rw [HN.out]; exact hlt) (fun q hq2 => HQ.out q (by omega)) rfl
                  have hnew := (first_iff cs i (by rw [HN.out]; exact hlt)).1 hix
                  have hnm := nm_new cs i hnew
                  have hts := two_stores (i := i) (x := ((i : Nat) : Int)) (y := (((sp cs i).length : Nat) : Int)) hN hF hNF hgN1 hbq
                  have hsN := half_set (nmL cs n) i (by rw [HlN.out]; exact hlt)
                  have hsF := half_set (fsL cs n) i (by rw [HlF.out]; exact hlt)
                  rw [nmL_at cs n i hlt, hnm] at hsN
                  rw [fsL_at cs n i hlt, hix] at hsF
                  rw [hsN, hsF] at hts
                  obtain ⟨T1, T2, T3⟩ := hts
                  have HSP : Hid ((sp cs (i + 1)).length = (sp cs i).length + 1) := by show _ = _; rw [sp_new cs i hnew, List.length_append]; rfl
                  subst hje
                  obtain ⟨y, hy⟩ : ∃ y : Nat, y = (sp cs j).length := ⟨_, rfl⟩
                  rw [← hy] at T1 T2 T3 hspl HSP ⊢
                  clear hy hix hnew hnm hsN hsF hN hF hbq hrN hrF HQ
                  go_wp2
                  go_roundw
                  case rel => exact ⟨j + 1, by omega, by go_num, by rw [HSP.out]; go_num, T1, T2, ⟨T3.os, T3.tape, T3.output, T3.size, T3.block⟩⟩
                  case measure => simp [intOf]; omega
            · have hie : i = n := by omega
              subst hie
              have hN : Row wr gN (nmL cs i) := by
                have h := half_all (nmL cs i)
                rw [nmL_length] at h
                rw [h] at hrN; exact hrN
              have hF : Row3 wr gF (fsL cs i) := by
                have h := half_all (fsL cs i)
                rw [fsL_length] at h
                rw [h] at hrF; exact hrF
              have hgF2 := hF.lt
              have hgN2 := hN.lt
              clear hrN hrF
              obtain ⟨kb, hkb⟩ : ∃ kb, kb = wr.heap.size := ⟨_, rfl⟩
              have hb3 : Below wr.heap.size wr (wr.alloc (.cells #[.map none, .slice none 0 0] 39)) := (Below.refl _ _).alloc (Nat.le_refl _) _
              have hN3 := hN.below hb3 hgN2
              have hF3 := hF.below hb3 hgF2
              have hbel3 := hbel.trans (hb3.mono hbel.size)
              have hkt3 : KT (wr.alloc (.cells #[.map none, .slice none 0 0] 39)) kb (sp cs 0) :=
                ⟨.map none, .slice none 0 0, by rw [hkb]; exact heap_alloc_new wr _, World.ownsRow_nil _ _ _ _, .inl ⟨rfl, rfl⟩⟩
              have hgN4 : gN < kb := by omega
              have hgF4 : gF < kb := by omega
              have hwk : w.heap.size ≤ kb := by have := hbel.size; omega
              have HKB : Hid (wr.heap.size = kb) := hkb.symm
              go_wp2
              obtain ⟨w3, hw3⟩ : ∃ w3, w3 = wr.alloc (.cells #[.map none, .slice none 0 0] 39) := ⟨_, rfl⟩
              have hs3 : kb ≤ w3.heap.size := by rw [hw3, hkb]; simp
              rw [← hw3] at hN3 hF3 hbel3 hkt3 ⊢
              rw [HKB.out]
              clear hw3 hkb HKB hb3 hN hF hbel hgN2 hgF2
              go_loopw [13] (fun iv wq => ∃ k : Nat, k ≤ i ∧ iv = .int .i64 k ∧ KT wq kb (sp cs k) ∧ Below kb w3 wq) (fun iv _ => i - (intOf iv).toNat)
              case atStart => exact ⟨0, Nat.zero_le _, rfl, hkt3, Below.refl _ _⟩
              case round =>
                obtain ⟨q, hqi, rfl, hkt, hbq⟩ := hrel
                by_cases hqn : q < i
                · have hbelq := hbel3.trans (hbq.mono hwk)
                  obtain ⟨b, off, rfl, hbw, hc⟩ := (hrd0.below hbelq).at (by rw [HN.out]; omega)
                  obtain ⟨hcp, hct⟩ := hc q (by rw [HN.out]; exact hqn)
                  have hwf := HW.out q (by rw [HN.out]; exact hqn)
                  have hsl := sp_le cs q
                  have HSPELL : Hid (∀ W, KT W kb (sp cs q) → Calls Try.prog 18 #[.pointer (some ⟨kb, 0, none⟩), .int .i32 (cl cs q).1, .string (cl cs q).2] W fun e w' => e = .returned (.int .i32 (nm cs q : Nat)) ∧ KT w' kb (sp cs (q + 1)) ∧ Below kb W w') :=
                    fun W hW => (spell_any kb (sp cs q) (cl cs q).1 (cl cs q).2 W hwf (by omega) hW)
                  have hcn := (hN3.below hbq hgN4).cell q (by rw [nmL_length]; exact hqn)
                  rw [nmL_at cs i q hqn] at hcn
                  obtain ⟨y, hy⟩ : ∃ y : Nat, y = nm cs q := ⟨_, rfl⟩
                  obtain ⟨p, hp⟩ : ∃ p, p = (cl cs q).1 := ⟨_, rfl⟩
                  obtain ⟨t, ht⟩ : ∃ t, t = (cl cs q).2 := ⟨_, rfl⟩
                  rw [← hy] at HSPELL hcn
                  rw [← hp] at HSPELL hcp
                  rw [← ht] at HSPELL hct
                  clear hy hp ht hc hwf
                  have HKT : Hid (KT wr kb (sp cs q)) := hkt
                  clear hkt
                  go_wp2_with fail
                  go_region_with (go_at_call 18; refine (HSPELL.out _ ?_).mono ?_; exact HKT.out; rintro e w4 ⟨rfl, hkt4, hb4⟩)
                  all_goals
                    have hcn4 : w4.cell? ⟨gN, q, none⟩ = some (.int .i32 (y : Int)) := (hb4.cell (p := ⟨gN, q, none⟩) hgN4).trans hcn
                    have hb5 : Below kb w3 w4 := hbq.trans ⟨hb4.os, hb4.tape, hb4.output, hb4.size, hb4.block⟩
                    clear hcn hb4 hbq hbelq hcp hct HSPELL HKT
                    go_wp2
                    go_roundw
                    case rel => exact ⟨q + 1, by omega, by go_num, hkt4, hb5⟩
                    case measure => simp [intOf]; omega
                · have hqe : q = i := by omega
                  subst hqe
                  have hbelq := hbel3.trans (hbq.mono hwk)
                  have hNq := hN3.below hbq hgN4
                  have hFq := hF3.below hbq hgF4
                  have hrdq := hrd0.below hbelq
                  clear hN3 hF3 hbel3 hkt3 hbq hrd0
                  go_wp2_with fail
                  refine (len_any kb (sp cs q) wr hkt).mono ?_
                  rintro e w' ⟨rfl, rfl⟩
                  go_wp2_with fail
                  refine (numlen_any kb (sp cs q) wr hkt).mono ?_
                  rintro e w' ⟨rfl, rfl⟩
                  go_wp2_with fail
                  go_loopw [15] (fun iv wq => (∃ m : Nat, m ≤ q ∧ iv = .int .i64 m) ∧ Below wr.heap.size wr wq) (fun iv _ => q - (intOf iv).toNat)
                  case atStart => exact ⟨⟨0, Nat.zero_le _, rfl⟩, Below.refl _ _⟩
                  case round =>
                    obtain ⟨⟨m, hmq, rfl⟩, hbm⟩ := hrel
                    by_cases hml : m < q
                    · have hcF := (hFq.below hbm hFq.lt).cell m (by rw [fsL_length]; exact hml)
                      rw [fsL_at cs q m hml] at hcF
                      have hfi := first_iff cs m (by rw [HN.out]; exact hml)
                      obtain ⟨f, hf⟩ : ∃ f : Nat, f = ix cs (cl cs m).1 := ⟨_, rfl⟩
                      rw [← hf] at hcF hfi
                      clear hf
                      by_cases hfm : f = m
                      · have hnew := hfi.1 hfm
                        rw [hfm] at hcF
                        have hst := nm_stays cs m q hml
                        have hat := sp_at cs m q hml hnew
                        have hspq := sp_le cs q
                        have hktm := kt_below hkt hbm
                        have hrdm := hrdq.below hbm
                        have hNm := hNq.below hbm hNq.lt
                        have hcN := hNm.cell m (by rw [nmL_length]; exact hml)
                        rw [nmL_at cs q m hml] at hcN
                        have HATC := at_any kb (sp cs q) (nm cs m) wr hktm (by omega) hst.2
                        rw [hat] at HATC
                        have HNUM : Hid (∀ W, KT W kb (sp cs q) → Calls Try.prog 22 #[.pointer (some ⟨kb, 0, none⟩), .int .i32 (cl cs m).1] W fun e w' => e = .returned (.tuple #[.int .i32 (nm cs m : Nat), .bool true]) ∧ W = w') := by
                          intro W hW
                          have h := number_any kb (sp cs q) (cl cs m).1 W (HW.out m (by rw [HN.out]; exact hml)) hW (by rw [hst.1]; exact hst.2)
                          rw [hst.1] at h
                          exact h
                        obtain ⟨b, off, hao, hbw, hc⟩ := hrdm.at (by rw [HN.out]; omega)
                        have hcm := hc m (by rw [HN.out]; exact hml)
                        obtain ⟨y, hy⟩ : ∃ y : Nat, y = nm cs m := ⟨_, rfl⟩
                        obtain ⟨p, hp⟩ : ∃ p, p = (cl cs m).1 := ⟨_, rfl⟩
                        obtain ⟨t, ht⟩ : ∃ t, t = (cl cs m).2 := ⟨_, rfl⟩
                        have hyq : y ≤ 4096 := by rw [hy]; omega
                        rw [← hy] at hcN HATC HNUM
                        rw [← hp] at hcm HATC HNUM
                        rw [← ht] at hcm HATC
                        obtain ⟨hcp, hct⟩ := hcm
                        have HA : Hid (Calls Try.prog 21 #[.pointer (some ⟨kb, 0, none⟩), .int .i64 (y : Nat)] wr fun e w' => e = .returned (.tuple #[.string t, .int .i32 p]) ∧ Below wr.heap.size wr w') := HATC
                        have HKT : Hid (KT wr kb (sp cs q)) := hktm
                        have HRC : Hid (b < wr.heap.size) := hbw
                        subst hao
                        clear hy hp ht hc hfi hfm hnew hst hat HATC hktm hrdm hbw hNm
                        have hNb : gN < wr.heap.size := by have := hbm.size; have := hNq.lt; omega
                        go_wp2_with fail
                        refine HA.out.mono ?_
                        rintro e w5 ⟨rfl, hb5⟩
                        have hcp5 := (hb5.cell (p := ⟨b, off + m * 2, none⟩) HRC.out).trans hcp
                        have hct5 := (hb5.cell (p := ⟨b, off + m * 2 + 1, none⟩) HRC.out).trans hct
                        have hcN5 := (hb5.cell (p := ⟨gN, m, none⟩) hNb).trans hcN
                        have HKT5 : Hid (KT w5 kb (sp cs q)) := kt_below HKT.out hb5
                        have hbm5 := hbm.trans (hb5.mono hbm.size)
                        clear HA HKT hcp hct hcN hb5 hbm hcF
                        go_wp2_with fail
                        refine (HNUM.out _ HKT5.out).mono ?_
                        rintro e w6 ⟨rfl, rfl⟩
                        clear HNUM HKT5
                        go_wp2
                        go_roundw
                        case rel => exact ⟨⟨m + 1, by omega, by go_num⟩, hbm5⟩
                        case measure => simp [intOf]; omega
                      · have hb1 : ((f : Int) != (m : Int)) = true := by simp; omega
                        clear hfi
                        go_wp2
                        go_roundw
                        case rel => exact ⟨⟨m + 1, by omega, by go_num⟩, hbm⟩
                        case measure => simp [intOf]; omega
                    · go_wp2
                      go_ret
                      exact ⟨rfl, hbelq.trans (hbm.mono hbelq.size)⟩
    · go_wp2_with fail
      go_ret
      exact ⟨rfl, Below.refl _ _⟩

end Go.Proofs.Qxb6602066a
