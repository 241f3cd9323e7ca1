/-
  SEAT b6601818a: the contracts of lineStarts (function 20) and ZZLineStarts (11).
-/
import Derived.Test.Qxb6601818aClone
import Derived.Test.Qxb6601818aPlain
namespace Go.Proofs.Qxb6601818a
open Go.RowKit

set_option maxHeartbeats 800000 in
theorem lines_any (ao : Option Addr) (cap : Nat) (zs : List Int) (w : World) (hn : zs.length ≤ 1048576)
    (hx : 0 < zs.length → ∃ b off, ao = some ⟨b, off, none⟩ ∧ ∀ i, i < zs.length → w.cell? ⟨b, off + i, none⟩ = some (.int .u8 (zs.getD i 0))) :
    Calls Try.prog 20 #[.slice ao zs.length cap] w fun e w' => ∃ v, e = .returned v ∧ w'.ownsRow w.heap.size 3 1 v (LS zs zs.length).length ((LS zs zs.length).map (Value.int .i64)) ∧ Below w.heap.size w w' := by
  obtain ⟨i0, hi, hz0, hz1, hz2⟩ := info_parts Try.info3
  go_enter Try.func20, Try.ntmps20
  go_wp2
  go_loopw [3, 9] (fun v i wr => ∃ k : Nat, k ≤ zs.length ∧ i = .int .i64 k ∧ wr.ownsRow w.heap.size 3 1 v (LS zs k).length ((LS zs k).map (Value.int .i64)) ∧ Below w.heap.size w wr)
    (fun _ i _ => zs.length - (intOf i).toNat)
  case atStart => exact ⟨0, Nat.zero_le _, rfl, World.ownsRow_lit w #[.int .i64 0] 1 (Nat.le_refl _) (by decide) rfl, (Below.refl _ _).alloc (Nat.le_refl _) _⟩
  case round =>
    obtain ⟨k, hk, rfl, hown, hbel⟩ := hrel
    by_cases hlt : k < zs.length
    · obtain ⟨b, off, rfl, hc⟩ := hx (by omega)
      have hck : wr.cell? ⟨b, off + k, none⟩ = some (.int .u8 (zs.getD k 0)) := by
        rw [hbel.cell (World.block_lt_of_cell? w _ (hc k hlt))]; exact hc k hlt
      have hle := LS_le zs k
      clear hc hx
      obtain ⟨c, hcd⟩ : ∃ c, c = zs.getD k 0 := ⟨_, rfl⟩
      rw [← hcd] at hck
      have HC : Hid (c = zs.getD k 0) := hcd
      clear hcd
      by_cases h10 : c = 10
      · have ht : (c == 10) = true := by simp [h10]
        have H10 : Hid (c = 10) := h10
        clear h10
        go_wp2_with (at_builtin; refine wpList_append_own _ rfl _ _ 25 rfl w.heap.size 3 i0 (.int .i64 0) 1 8 Try.underlying25 hi hz0 hz1 hz2 rfl (by decide) _ _ _ rfl (hown.alloc _) ⟨wr.heap.size, 0, none⟩ 1 1 [.int .i64 ((k : Int) + 1)] rfl rfl ?c1 ?c2 ?c3 ?c4 ?c5 ?_)
        case c1 =>
          intro j u hj
          match j, hj with
          | 0, hj => simp at hj; subst hj; simp [Addr.add]
        case c2 => intro u hu; simp at hu; subst hu; rfl
        case c3 => unfold maxLen; omega
        case c4 => omega
        case c5 => have := hbel.size; simp; omega
        intro v' w1 hown' hgrow _
        have hb1 : Below w.heap.size w w1 := (hbel.alloc hbel.size _).grown hgrow (by have := hbel.size; simp; omega) (fun g hg => (hown.lt g hg).1)
        have hl1 : LS zs (k + 1) = LS zs k ++ [(k : Int) + 1] := LS_hit zs k (by rw [← HC.out]; exact H10.out)
        have HL : Hid (LS zs (k + 1) = LS zs k ++ [(k : Int) + 1]) := hl1
        clear hl1 hown hbel hgrow hck
        go_wp2
        go_roundw
        case rel => exact ⟨k + 1, by omega, by go_num, by rw [HL.out]; simpa using hown', hb1⟩
        case measure => simp [intOf]; omega
      · have ht : (c == 10) = false := by simp [h10]
        have HL : Hid (LS zs (k + 1) = LS zs k) := LS_miss zs k (by rw [← HC.out]; exact h10)
        clear h10
        go_wp2
        go_roundw
        case rel => exact ⟨k + 1, by omega, by go_num, by rw [HL.out]; exact hown, hbel⟩
        case measure => simp [intOf]; omega
    · go_wp2
      go_ret
      have hkl : k = zs.length := by omega
      subst hkl
      exact ⟨_, rfl, hown, hbel⟩

theorem zzlines_any (v : Value) (zs : List Int) (w : World) (hn : zs.length ≤ 1048576) (h : Rd .u8 w v zs) :
    Calls Try.prog 11 #[v] w fun e w' => ∃ v', e = .returned v' ∧ Rd .i64 w' v' (LS zs zs.length) ∧ Below w.heap.size w w' := by
  obtain ⟨ao, cap, rfl, h1, h2, h3, h4⟩ := h
  go_enter Try.func11, Try.ntmps11
  go_wp2_with (go_at_call 20; refine (lines_any ao cap zs _ hn h4).mono ?_; rintro e w' ⟨v', rfl, hown, hb⟩)
  go_ret
  exact ⟨_, rfl, Rd.own hown, hb⟩

end Go.Proofs.Qxb6601818a
