/-
  SEAT b6602066a: appendKept (function 24) and ZZAppendKept (15), where the capacity of dst is its length.
-/
import Derived.Test.Qxb6602066aGrow
import Derived.Test.Qxb6602066aPlainKept
namespace Go.Proofs.Qxb6602066a
open Go.RowKit

set_option maxHeartbeats 1600000 in
theorem kept_any (base : Option Addr) (zs : List Int) (ak : Option Addr) (ck : Nat) (bs : List Bool) (w : World) (hl : zs.length ≤ 524288) (hb : bs.length ≤ 524288)
    (hrd : Rd (Value.int .i32) 0 w (.slice base zs.length zs.length) zs) (hrk : Rd Value.bool false w (.slice ak bs.length ck) bs) :
    Calls Try.prog 24 #[.slice base zs.length zs.length, .slice ak bs.length ck] w fun e w' => ∃ v, e = .returned v ∧ Rd (Value.int .i32) 0 w' v (zs ++ idx bs bs.length) ∧ Below w.heap.size w w' := by
  obtain ⟨i0, hi, hz0, hz1, hz2⟩ := info_parts Try.info21
  go_enter Try.func24, Try.ntmps24
  go_wp2
  go_loop [5, 12] (fun n i => ∃ k : Nat, k ≤ bs.length ∧ i = .int .i64 k ∧ n = .int .i64 ((idx bs k).length : Nat)) (fun _ i => bs.length - (intOf i).toNat)
  case atStart => exact ⟨0, Nat.zero_le _, rfl, rfl⟩
  case round =>
    obtain ⟨k, hk, rfl, rfl⟩ := hrel
    have hle := idx_le bs k
    by_cases hlt : k < bs.length
    · obtain ⟨b, off, rfl, _, hc⟩ := hrk.at (by omega)
      have hck := hc k hlt
      obtain ⟨c, hcd⟩ : ∃ c, c = bs.getD k false := ⟨_, rfl⟩
      rw [← hcd] at hck
      clear hc hrd hrk
      cases c with
      | true =>
        have HL : Hid ((idx bs (k + 1)).length = (idx bs k).length + 1) := by show _ = _; rw [idx_hit bs k hcd.symm]; simp
        clear hcd
        go_wp2
        go_round
        case rel => exact ⟨k + 1, by omega, by go_num, by rw [HL.out]; go_num⟩
        case measure => simp [intOf]; omega
      | false =>
        have HL : Hid (idx bs (k + 1) = idx bs k) := idx_miss bs k hcd.symm
        clear hcd
        go_wp2
        go_round
        case rel => exact ⟨k + 1, by omega, by go_num, by rw [HL.out]⟩
        case measure => simp [intOf]; omega
    · have hke : k = bs.length := by omega
      subst hke
      clear hlt hk
      by_cases h0 : (idx bs bs.length).length = 0
      · have HN : Hid (idx bs bs.length = []) := List.eq_nil_of_length_eq_zero h0
        rw [h0]
        clear h0 hle
        go_wp2_with fail
        refine (grow_none base zs.length w (by omega)).mono ?_
        rintro e w1 ⟨rfl, rfl⟩
        go_wp2_with fail
        go_loop [0, 25] (fun v i => v = .slice base zs.length zs.length ∧ ∃ k : Nat, k ≤ bs.length ∧ i = .int .i64 k) (fun _ i => bs.length - (intOf i).toNat)
        case atStart => exact ⟨rfl, 0, Nat.zero_le _, rfl⟩
        case round =>
          obtain ⟨rfl, k, hk, rfl⟩ := hrel
          by_cases hlt : k < bs.length
          · obtain ⟨b, off, rfl, _, hc⟩ := hrk.at (by omega)
            have hck := hc k hlt
            have hbf : bs.getD k false = false := by
              cases hbk : bs.getD k false with
              | false => rfl
              | true =>
                exfalso
                have h1 := idx_mono bs (k + 1) (bs.length - (k + 1))
                rw [show k + 1 + (bs.length - (k + 1)) = bs.length by omega, HN.out, idx_hit bs k hbk, List.length_append] at h1
                simp at h1
            rw [hbf] at hck
            clear hc hbf
            go_wp2
            go_round
            case rel => exact ⟨rfl, k + 1, by omega, by go_num⟩
            case measure => simp [intOf]; omega
          · go_wp2
            go_ret
            exact ⟨_, rfl, by rw [HN.out, List.append_nil]; exact hrd, Below.refl _ _⟩
      · go_wp2_with fail
        refine (grow_some base (idx bs bs.length).length zs w (by omega) (by omega) (by omega) hrd).mono ?_
        rintro e w1 ⟨G, rfl, hown, hbel⟩
        clear hrd h0
        go_wp2_with fail
        go_loopw [0, 25] (fun v i wr => ∃ k : Nat, k ≤ bs.length ∧ i = .int .i64 k ∧ wr.ownsRow w.heap.size 21 1 v (zs ++ idx bs k).length ((zs ++ idx bs k).map (Value.int .i32)) ∧ Below w.heap.size w wr) (fun _ i _ => bs.length - (intOf i).toNat)
        case atStart => exact ⟨0, Nat.zero_le _, rfl, by simpa [idx] using hown, hbel⟩
        case round =>
          clear hown hbel
          obtain ⟨k, hk, rfl, hown, hbel⟩ := hrel
          have hle2 := idx_le bs k
          have hll : (zs ++ idx bs k).length ≤ 1048576 := by rw [List.length_append]; omega
          by_cases hlt : k < bs.length
          · obtain ⟨b, off, rfl, hbw, hc⟩ := (hrk.below hbel).at (by omega)
            have hck := hc k hlt
            obtain ⟨c, hcd⟩ : ∃ c, c = bs.getD k false := ⟨_, rfl⟩
            rw [← hcd] at hck
            clear hc
            cases c with
            | true =>
              have HL : Hid (idx bs (k + 1) = idx bs k ++ [(k : Int)]) := idx_hit bs k hcd.symm
              clear hcd
              go_wp2_with (at_builtin; refine wpList_append_own _ rfl _ _ 22 rfl w.heap.size 21 i0 (.int .i32 0) 1 4 Try.underlying22 hi hz0 hz1 hz2 rfl (by decide) _ _ _ rfl (hown.alloc _) ⟨wr.heap.size, 0, none⟩ 1 1 [.int .i32 (k : Int)] rfl rfl ?c1 ?c2 ?c3 ?c4 ?c5 ?_)
              case c1 =>
                intro j u hj
                match j, hj with
                | 0, hj => simp at hj; subst hj; simp [Addr.add]
              case c2 => intro u hu; simp at hu; subst hu; rfl
              case c3 => unfold maxLen; omega
              case c4 => omega
              case c5 => have := hbel.size; simp; omega
              intro v' w2 hown' hgrow _
              have hb1 : Below w.heap.size w w2 := (hbel.alloc hbel.size _).grown hgrow (by have := hbel.size; simp; omega) (fun g hg => (hown.lt g hg).1)
              have HO : Hid (w2.ownsRow w.heap.size 21 1 v' (zs ++ idx bs (k + 1)).length ((zs ++ idx bs (k + 1)).map (Value.int .i32))) := by
                show World.ownsRow _ _ _ _ _ _ _
                rw [HL.out]; simpa [Nat.add_assoc] using hown'
              clear hown hbel hgrow hck hown'
              go_wp2
              go_roundw
              case rel => exact ⟨k + 1, by omega, by go_num, HO.out, hb1⟩
              case measure => simp [intOf]; omega
            | false =>
              have HL : Hid (idx bs (k + 1) = idx bs k) := idx_miss bs k hcd.symm
              clear hcd
              go_wp2
              go_roundw
              case rel => exact ⟨k + 1, by omega, by go_num, by rw [HL.out]; exact hown, hbel⟩
              case measure => simp [intOf]; omega
          · have hke : k = bs.length := by omega
            subst hke
            go_wp2
            go_ret
            exact ⟨_, rfl, Rd.own hown, hbel⟩

theorem zzkept_any (base : Option Addr) (zs : List Int) (ak : Option Addr) (ck : Nat) (bs : List Bool) (w : World) (hl : zs.length ≤ 524288) (hb : bs.length ≤ 524288)
    (hrd : Rd (Value.int .i32) 0 w (.slice base zs.length zs.length) zs) (hrk : Rd Value.bool false w (.slice ak bs.length ck) bs) :
    Calls Try.prog 15 #[.slice base zs.length zs.length, .slice ak bs.length ck] w fun e w' => ∃ v, e = .returned v ∧ Rd (Value.int .i32) 0 w' v (zs ++ idx bs bs.length) ∧ Below w.heap.size w w' := by
  go_enter Try.func15, Try.ntmps15
  go_wp2_with fail
  refine (kept_any base zs ak ck bs w hl hb hrd hrk).mono ?_
  rintro e w1 ⟨v, rfl, h1, h2⟩
  go_wp2_with fail
  go_ret
  exact ⟨_, rfl, h1, h2⟩

end Go.Proofs.Qxb6602066a
