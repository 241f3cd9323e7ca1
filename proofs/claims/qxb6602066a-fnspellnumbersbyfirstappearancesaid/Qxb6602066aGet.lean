/-
  SEAT b6602066a: the contracts of the getters ZZKeyTextsLen (19), ZZKeyTextsNumbersLen (20), ZZKeyTextsAt (21), ZZKeyTextsNumber (22).
-/
import Derived.Test.Qxb6602066aKT
namespace Go.Proofs.Qxb6602066a
open Go.RowKit Go.Maps

set_option maxHeartbeats 400000 in
theorem len_any (kb : Nat) (l : List (Int × ByteArray)) (w : World) (hkt : KT w kb l) :
    Calls Try.prog 19 #[.pointer (some ⟨kb, 0, none⟩)] w fun e w' => e = .returned (.int .i64 (l.length : Nat)) ∧ w = w' := by
  obtain ⟨mv, tv, hk, hrow, hm⟩ := hkt
  obtain ⟨c0, c1, f0, f1, hlt⟩ := two_cells hk
  obtain ⟨ao, cp, rfl, _⟩ := own_shape hrow
  clear hk hrow hm
  go_enter Try.func19, Try.ntmps19
  go_wp2
  go_ret
  exact ⟨rfl, rfl⟩

set_option maxHeartbeats 400000 in
theorem numlen_any (kb : Nat) (l : List (Int × ByteArray)) (w : World) (hkt : KT w kb l) :
    Calls Try.prog 20 #[.pointer (some ⟨kb, 0, none⟩)] w fun e w' => e = .returned (.int .i64 (l.length : Nat)) ∧ w = w' := by
  obtain ⟨mv, tv, hk, hrow, hm⟩ := hkt
  obtain ⟨c0, c1, f0, f1, hlt⟩ := two_cells hk
  rcases hm with ⟨rfl, rfl⟩ | ⟨mb, D, rfl, hmb, hmap, hnum⟩
  · have hl := fun ty => Maps.len_nil (w := w) (P := Try.prog) Try.underlying36 ty
    clear hk hrow
    go_enter Try.func20, Try.ntmps20
    go_wp2
    go_ret
    exact ⟨rfl, rfl⟩
  · have HS : Hid (Maps.size D = l.length) := hnum.size
    clear hk hrow hnum
    go_enter Try.func20, Try.ntmps20
    go_wp2_with (at_len; refine wpList_len_own _ rfl _ 36 rfl 21 21 Try.underlying36 (plainElem (H := Unit) Try.prog 21) mb l.length D rfl hmap ?_)
    go_ret
    exact ⟨ret_int (by rw [HS.out]), rfl⟩

set_option maxHeartbeats 800000 in
theorem number_any (kb : Nat) (l : List (Int × ByteArray)) (p : Int) (w : World) (hp : (Lit.int .i32 p).wf = true) (hkt : KT w kb l) (hin : ix l p < l.length) :
    Calls Try.prog 22 #[.pointer (some ⟨kb, 0, none⟩), .int .i32 p] w fun e w' => e = .returned (.tuple #[.int .i32 (ix l p : Nat), .bool true]) ∧ w = w' := by
  obtain ⟨mv, tv, hk, hrow, hm⟩ := hkt
  obtain ⟨c0, c1, f0, f1, hlt⟩ := two_cells hk
  have hkey := keyOf_int_mk Try.underlying21 hp
  rcases hm with ⟨rfl, rfl⟩ | ⟨mb, D, rfl, hmb, hmap, hnum⟩
  · simp [ix] at hin
  · have hth : Maps.has D (.int .i32 p) = true := by rw [hnum.there]; exact decide_eq_true hin
    have hat0 := hnum.at_ p hin
    clear hk hrow hnum
    go_enter Try.func22, Try.ntmps22
    go_wp2_with (at_lookup; refine wpList_lookup_own_ok_int _ rfl _ _ 36 rfl 21 21 .i32 law21 Try.underlying36 Try.underlying21 (zero21 _) mb l.length D rfl hmap _ _ rfl hkey ?_; intro c hat hwc; obtain rfl : (ix l p : Nat) = c := by rw [hat0] at hat; simpa using hat)
    go_ret2
    exact ⟨rfl, rfl⟩

set_option maxHeartbeats 800000 in
theorem at_any (kb : Nat) (l : List (Int × ByteArray)) (i : Nat) (w : World) (hkt : KT w kb l) (_hl : l.length ≤ 4096) (hi : i < l.length) :
    Calls Try.prog 21 #[.pointer (some ⟨kb, 0, none⟩), .int .i64 i] w fun e w' => e = .returned (.tuple #[.string (cl l i).2, .int .i32 (cl l i).1]) ∧ Below w.heap.size w w' := by
  obtain ⟨mv, tv, hk, hrow, hm⟩ := hkt
  obtain ⟨c0, c1, f0, f1, hlt⟩ := two_cells hk
  rcases id hrow.2 with ⟨rfl, h0⟩ | ⟨g, cap, cur, rfl, hb, hg, hnc, hcm, _, _⟩
  · omega
  · have h1 := hrow.cellAt (i * 2) (by omega)
    have h2 := hrow.cellAt (i * 2 + 1) (by omega)
    rw [(flat_at l i hi).1] at h1
    rw [(flat_at l i hi).2] at h2
    have e1 : ((i : Int) * 2).toNat = i * 2 := by omega
    obtain ⟨t, ht⟩ : ∃ t, t = (cl l i).2 := ⟨_, rfl⟩
    obtain ⟨p, hp⟩ : ∃ p, p = (cl l i).1 := ⟨_, rfl⟩
    rw [← ht] at h1
    rw [← hp] at h2
    rw [← ht, ← hp]
    clear hk hrow hm hg hcm hnc ht hp
    go_enter Try.func21, Try.ntmps21
    go_wp2
    go_quiet (fail)
    go_wp2
    go_ret2
    exact ⟨rfl, below_drewN (Below.refl _ _) _⟩

end Go.Proofs.Qxb6602066a
