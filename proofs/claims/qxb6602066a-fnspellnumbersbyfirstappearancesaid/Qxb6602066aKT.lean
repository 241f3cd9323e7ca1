/-
  SEAT b6602066a: what the KeyTexts hold in memory ('KT'), and the contract of (*KeyTexts).Spell (function 18).
-/
import Derived.Test.Qxb6602066aRow
import Derived.Test.Qxb6602066aPlainSpell
import Derived.Maps.OwnSet
import Derived.WalkSpells
namespace Go.Proofs.Qxb6602066a
open Go.RowKit Go.Maps

theorem law21 : Keyed Try.prog 21 := int_keyed Try.underlying21
theorem zero21 (w : World) : (zeroValue 21).run Try.prog w = .ok (.int .i32 0) w := by kernel_rfl
theorem Try.info50 : (Try.prog.info? 50).map (fun i => (i.zero, i.size, i.bytes)) = some (some (.agg #[.string ⟨#[]⟩, .int .i32 0]), 2, 24) := by kernel_rfl

/-- The map's datum D numbers the principals of l by their places. -/
structure Num (D : DataW Unit) (l : List (Int × ByteArray)) : Prop where
  there : ∀ p : Int, Maps.has D (.int .i32 p) = decide (ix l p < l.length)
  at_ : ∀ p : Int, ix l p < l.length → D.atKey (.int .i32 p) (.lit (.int .i32 0)) = .lit (.int .i32 (ix l p : Nat))
  size : Maps.size D = l.length

theorem Num.empty : Num (.map []) [] := ⟨fun _ => rfl, fun p h => by simp [ix] at h, rfl⟩

theorem Num.put {D : DataW Unit} {l : List (Int × ByteArray)} (h : Num D l) (ht : Tidy D) (p : Int) (t : ByteArray) (hp : ix l p = l.length) : Num (D.put (.int .i32 p) (.lit (.int .i32 (l.length : Nat)))) (l ++ [(p, t)]) := by
  have hlen : (l ++ [(p, t)]).length = l.length + 1 := by simp
  refine ⟨fun q => ?_, fun q hq => ?_, ?_⟩
  · by_cases e : q = p
    · subst e
      rw [has_put_same ht.isMap (show WideAt.IsKeyLit (.int .i32 q) from trivial), ix_out _ _ _ hp, ix_one, hlen]
      simp
    · rw [has_put_other (by simpa using e), h.there, hlen]
      by_cases hq : ix l q < l.length
      · rw [ix_in _ _ _ hq]
        simp [hq]; omega
      · have h1 : ix l q = l.length := by have := ix_le l q; omega
        rw [ix_out _ _ _ h1, ix_one_other p q t (fun h => e h.symm), h1]
        simp
  · by_cases e : q = p
    · subst e
      rw [atKey_put_same ht.isMap (show WideAt.IsKeyLit (.int .i32 q) from trivial), ix_out _ _ _ hp, ix_one]
      rfl
    · rw [atKey_put_other (by simpa using e)]
      by_cases hq2 : ix l q < l.length
      · rw [ix_in _ _ _ hq2]; exact h.at_ q hq2
      · exfalso
        have h1 : ix l q = l.length := by have := ix_le l q; omega
        rw [ix_out _ _ _ h1, ix_one_other p q t (fun h => e h.symm), hlen] at hq
        omega
  · rw [size_put ht, h.there, hp, h.size, hlen]
    simp

/-- The cells of the texts. -/
def flat (l : List (Int × ByteArray)) : List Value := l.flatMap fun c => [.string c.2, .int .i32 c.1]
theorem flat_snoc (l : List (Int × ByteArray)) (p : Int) (t : ByteArray) : flat (l ++ [(p, t)]) = flat l ++ [.string t, .int .i32 p] := by simp [flat]
theorem flat_at (l : List (Int × ByteArray)) (j : Nat) (hj : j < l.length) : (flat l)[j * 2]? = some (.string (cl l j).2) ∧ (flat l)[j * 2 + 1]? = some (.int .i32 (cl l j).1) := by
  induction l generalizing j with
  | nil => simp at hj
  | cons c r ih =>
    cases j with
    | zero => exact ⟨rfl, rfl⟩
    | succ j =>
      have h := ih j (by simpa using hj)
      have e : flat (c :: r) = .string c.2 :: .int .i32 c.1 :: flat r := rfl
      have e2 : cl (c :: r) (j + 1) = cl r j := rfl
      rw [e, e2, show (j + 1) * 2 = j * 2 + 1 + 1 by omega]
      simpa using h

/-- THE KeyTexts AT BLOCK kb HOLD l: the map in field 0 (nil where there is none yet), the texts in field 1. -/
def KT (w : World) (kb : Nat) (l : List (Int × ByteArray)) : Prop :=
  ∃ mv tv, w.heap[kb]? = some (.cells #[mv, tv] 39 (0, 0)) ∧ w.ownsRow (kb + 1) 50 2 tv l.length (flat l) ∧
    ((mv = .map none ∧ l = []) ∨ ∃ mb D, mv = .map (some mb) ∧ kb < mb ∧ w.ownsMap Try.prog 21 (plainElem (H := Unit) Try.prog 21) mb l.length D ∧ Num D l)

theorem two_cells {w : World} {kb : Nat} {x y : Value} (h : w.heap[kb]? = some (.cells #[x, y] 39 (0, 0))) :
    w.cell? ⟨kb, 0, none⟩ = some x ∧ w.cell? ⟨kb, 1, none⟩ = some y ∧ w.frozen? ⟨kb, 0, none⟩ = false ∧ w.frozen? ⟨kb, 1, none⟩ = false ∧ kb < w.heap.size := by
  refine ⟨?_, ?_, frozen_of_row w kb 0 _ 39 h, frozen_of_row w kb 1 _ 39 h, (Array.getElem?_eq_some_iff.1 h).1⟩
  · rw [cell_of_row w kb 0 _ 39 (0, 0) h]; rfl
  · rw [cell_of_row w kb 1 _ 39 (0, 0) h]; rfl

/-- The row's block is not the map's. -/
theorem row_not_map {w : World} {base e size n mb m : Nat} {v : Value} {xs : List Value} {D : DataW Unit} (h : w.ownsRow base e size v n xs) (hm : w.ownsMap Try.prog 21 (plainElem (H := Unit) Try.prog 21) mb m D) : v.ownBlock ≠ some mb := by
  intro hv
  obtain ⟨es, clock, hb, _⟩ := hm
  rcases h.2 with ⟨rfl, _⟩ | ⟨g, cap, cur, rfl, _, hg, _⟩
  · simp [Value.ownBlock] at hv
  · simp [Value.ownBlock] at hv
    subst hv
    rw [hb] at hg
    simp at hg

set_option maxHeartbeats 1600000 in
set_option maxRecDepth 100000 in
/-- Spell finds the principal: its number; nothing turns. -/
theorem spell_old (kb mb : Nat) (tv : Value) (l : List (Int × ByteArray)) (D : DataW Unit) (p : Int) (t : ByteArray) (w : World) (hp : (Lit.int .i32 p).wf = true) (hk : w.heap[kb]? = some (.cells #[.map (some mb), tv] 39 (0, 0)))
    (hmap : w.ownsMap Try.prog 21 (plainElem (H := Unit) Try.prog 21) mb l.length D) (hnum : Num D l) (hin : ix l p < l.length) :
    Calls Try.prog 18 #[.pointer (some ⟨kb, 0, none⟩), .int .i32 p, .string t] w fun e w' => e = .returned (.int .i32 (ix l p : Nat)) ∧ w = w' := by
  obtain ⟨c0, c1, f0, f1, hlt⟩ := two_cells hk
  have hkey := keyOf_int_mk Try.underlying21 hp
  have hth : Maps.has D (.int .i32 p) = true := by rw [hnum.there]; exact decide_eq_true hin
  have HAT : Hid (D.atKey (.int .i32 p) (.lit (.int .i32 0)) = .lit (.int .i32 (ix l p : Nat))) := hnum.at_ p hin
  clear hk hnum
  go_enter Try.func18, Try.ntmps18
  go_wp2_with (at_lookup; refine wpList_lookup_own_ok_int _ rfl _ _ 36 rfl 21 21 .i32 law21 Try.underlying36 Try.underlying21 (zero21 _) mb l.length D rfl hmap _ _ rfl hkey ?_; intro c hat hwc)
  go_ret
  refine ⟨ret_int ?_, rfl⟩
  have := HAT.out
  rw [hat] at this
  simpa using this

/-- The shape of a slice that owns a row. -/
theorem own_shape {w : World} {base e size n : Nat} {v : Value} {xs : List Value} (h : w.ownsRow base e size v n xs) : ∃ ao cp, v = .slice ao n cp ∧ (v.ownBlock = none ∨ ∃ g, v.ownBlock = some g ∧ base ≤ g) := by
  rcases h.2 with ⟨rfl, rfl⟩ | ⟨g, cap, cur, rfl, hb, _⟩
  · exact ⟨none, 0, rfl, .inl rfl⟩
  · exact ⟨_, cap, rfl, .inr ⟨g, rfl, hb⟩⟩

/-- WHAT THE NEW PRINCIPAL's WAY LEAVES: the map written, the text appended, the field stored. -/
theorem kt_new {w w1 w2 : World} {kb mb : Nat} {tv v' : Value} {l : List (Int × ByteArray)} {D : DataW Unit} {p : Int} {t : ByteArray} {O : Obj}
    (hk1 : w1.heap[kb]? = some (.cells #[.map (some mb), tv] 39 (0, 0))) (hmb : kb < mb) (hmap1 : w1.ownsMap Try.prog 21 (plainElem (H := Unit) Try.prog 21) mb (l.length + 1) D) (hnum : Num D (l ++ [(p, t)]))
    (hbel1 : Below kb w w1) (hrow1 : w1.ownsRow (kb + 1) 50 2 tv l.length (flat l))
    (hrow2 : w2.ownsRow (kb + 1) 50 2 v' (l.length + 1) (flat l ++ [.string t, .int .i32 p])) (hgr : (w1.alloc O).grownBy w2 tv.ownBlock) :
    KT (w2.setCell ⟨kb, 1, none⟩ v') kb (l ++ [(p, t)]) ∧ Below kb w (w2.setCell ⟨kb, 1, none⟩ v') ∧ w2.cell? ⟨kb, 1, none⟩ = some tv ∧ w2.frozen? ⟨kb, 1, none⟩ = false ∧ w2.cell? ⟨kb, 0, none⟩ = some (.map (some mb)) := by
  have hkl : kb < w1.heap.size := (Array.getElem?_eq_some_iff.1 hk1).1
  have hne : some kb ≠ tv.ownBlock := by
    intro e
    obtain ⟨ao, cp, _, h⟩ := own_shape hrow1
    rcases h with h | ⟨g, h, hg⟩
    · rw [h] at e; cases e
    · rw [h] at e; obtain rfl := Option.some.inj e; omega
  have hk2 : w2.heap[kb]? = some (.cells #[.map (some mb), tv] 39 (0, 0)) := by
    rw [hgr.block kb (by simp; omega) hne, Below.heap_alloc _ _ _ hkl]; exact hk1
  have hbel2 : Below kb w w2 := (hbel1.alloc (by omega) O).grown hgr (by simp; omega) (fun k e => by
    obtain ⟨ao, cp, _, h⟩ := own_shape hrow1
    rcases h with h | ⟨g, h, hg⟩
    · rw [h] at e; cases e
    · rw [h] at e; obtain rfl := Option.some.inj e; omega)
  have hmap2 : w2.ownsMap Try.prog 21 (plainElem (H := Unit) Try.prog 21) mb (l.length + 1) D := (hmap1.alloc O).kept hgr (fun e => row_not_map hrow1 hmap1 e.symm)
  obtain ⟨c0, c1, f0, f1, _⟩ := two_cells hk2
  refine ⟨⟨.map (some mb), v', ?_, ?_, .inr ⟨mb, D, rfl, hmb, ?_, hnum⟩⟩, hbel2.setCell (Nat.le_refl _) _, c1, f1, c0⟩
  · rw [heap_setCell_same w2 kb 1 _ 39 _ hk2]; rfl
  · rw [flat_snoc, List.length_append]
    exact ownsRow_setCell_below hrow2 (Nat.lt_succ_self _) _
  · rw [List.length_append]
    exact hmap2.setCell (by simp; omega) _

set_option maxHeartbeats 1600000 in
set_option maxRecDepth 100000 in
/-- Spell finds no such principal in a map that is there: it gets the next number. -/
theorem spell_new (kb mb : Nat) (tv : Value) (l : List (Int × ByteArray)) (D : DataW Unit) (p : Int) (t : ByteArray) (w : World) (hp : (Lit.int .i32 p).wf = true) (hl : l.length ≤ 4096) (hk : w.heap[kb]? = some (.cells #[.map (some mb), tv] 39 (0, 0)))
    (hrow : w.ownsRow (kb + 1) 50 2 tv l.length (flat l)) (hmb : kb < mb) (hmap : w.ownsMap Try.prog 21 (plainElem (H := Unit) Try.prog 21) mb l.length D) (hnum : Num D l) (hin : ix l p = l.length) :
    Calls Try.prog 18 #[.pointer (some ⟨kb, 0, none⟩), .int .i32 p, .string t] w fun e w' => e = .returned (.int .i32 (l.length : Nat)) ∧ KT w' kb (l ++ [(p, t)]) ∧ Below kb w w' := by
  obtain ⟨c0, c1, f0, f1, hlt⟩ := two_cells hk
  have hkey := keyOf_int_mk Try.underlying21 hp
  have hth : Maps.has D (.int .i32 p) = false := by rw [hnum.there]; exact decide_eq_false (by omega)
  have HN : Hid (Num (D.put (.int .i32 p) (.lit (.int .i32 (l.length : Nat)))) (l ++ [(p, t)])) := hnum.put (hmap.tidy law21) p t hin
  obtain ⟨ao, cp, rfl, hblk⟩ := own_shape hrow
  obtain ⟨i0, hi, hz0, hz1, hz2⟩ := info_parts Try.info50
  have q36 : ∀ (w : World) (r : Option Nat), (binOp .eql 36 (.map r) (.map none)).run Try.prog w = .ok (.bool r.isNone) w := fun w r => run_eql_map_nil w _ _ _ r Try.underlying36
  have HI : Hid (ix l p = l.length) := hin
  clear hin hnum
  go_enter Try.func18, Try.ntmps18
  go_wp2_with (first
    | (at_lookup; refine wpList_lookup_own_ok_int _ rfl _ _ 36 rfl 21 21 .i32 law21 Try.underlying36 Try.underlying21 (zero21 _) mb l.length D rfl hmap _ _ rfl hkey ?_; intro c hat hwc)
    | (at_mapUpdate; refine wpList_mapUpdate_own _ rfl _ _ _ 36 rfl 21 21 law21 Try.underlying36 (plainElem (H := Unit) Try.prog 21) mb l.length _ rfl hmap (by unfold maxLen; omega) _ _ _ rfl rfl hkey _ [] (plainElem_int Try.underlying21 (WalkArith.wf_i32 (by omega))) ?_))
  intro w1 hmap1 hgr1
  have hsz1 := hgr1.size
  have hk1 : w1.heap[kb]? = some (.cells #[.map (some mb), .slice ao l.length cp] 39 (0, 0)) := by
    rw [hgr1.block kb hlt (by simp; omega)]; exact hk
  have hrow1 := hrow.kept hgr1 (.inr (row_not_map hrow hmap))
  have hbel1 : Below kb w w1 := (Below.refl _ _).grown hgr1 (by omega) (fun k e => by obtain rfl := Option.some.inj e; omega)
  obtain ⟨d0, d1, g0, g1, hlt1⟩ := two_cells hk1
  clear hk hrow hmap c0 c1 f0 f1 hat hgr1 hblk
  go_wp2_with (at_builtin; refine wpList_append_own _ rfl _ _ 37 rfl (kb + 1) 50 i0 (.agg #[.string ⟨#[]⟩, .int .i32 0]) 2 24 Try.underlying37 hi hz0 hz1 hz2 rfl (by decide) _ _ _ rfl (hrow1.alloc _) ⟨w1.heap.size, 0, none⟩ 1 1 [.string t, .int .i32 p] rfl rfl ?c1 ?c2 ?c3 ?c4 ?c5 ?_)
  case c1 =>
    intro j u hj
    match j, hj with
    | 0, hj => simp at hj; subst hj; simp [Addr.add]
    | 1, hj => simp at hj; subst hj; simp [Addr.add]
  case c2 => intro u hu; simp at hu; rcases hu with rfl | rfl <;> rfl
  case c3 => unfold maxLen; omega
  case c4 => omega
  case c5 => simp; omega
  intro v' w2 hrow2 hgr2 _
  obtain ⟨ao2, cp2, rfl, _⟩ := own_shape hrow2
  obtain ⟨R1, R2, R3, R4, R5⟩ := kt_new hk1 hmb hmap1 HN.out hbel1 hrow1 hrow2 hgr2
  clear hk1 hmap1 hbel1 hrow1 hrow2 hgr2 d0 d1 g0 g1
  go_wp2
  go_ret
  exact ⟨rfl, R1, R2⟩

set_option maxHeartbeats 1600000 in
set_option maxRecDepth 100000 in
/-- Spell meets a nil map: it makes one, and the principal gets number 0. -/
theorem spell_nil (kb : Nat) (tv : Value) (p : Int) (t : ByteArray) (w : World) (hp : (Lit.int .i32 p).wf = true) (hk : w.heap[kb]? = some (.cells #[.map none, tv] 39 (0, 0)))
    (hrow : w.ownsRow (kb + 1) 50 2 tv 0 (flat [])) :
    Calls Try.prog 18 #[.pointer (some ⟨kb, 0, none⟩), .int .i32 p, .string t] w fun e w' => e = .returned (.int .i32 0) ∧ KT w' kb [(p, t)] ∧ Below kb w w' := by
  obtain ⟨c0, c1, f0, f1, hlt⟩ := two_cells hk
  have hkey := keyOf_int_mk Try.underlying21 hp
  have hrun := Maps.look_nil (w := w) true law21 Try.underlying36 (zero21 _) hkey
  have hmm := @run_makeMap Try.prog
  obtain ⟨ao, cp, rfl, hblk⟩ := own_shape hrow
  obtain ⟨i0, hi, hz0, hz1, hz2⟩ := info_parts Try.info50
  have q36 : ∀ (w : World) (r : Option Nat), (binOp .eql 36 (.map r) (.map none)).run Try.prog w = .ok (.bool r.isNone) w := fun w r => run_eql_map_nil w _ _ _ r Try.underlying36
  have HN : Hid (Num ((DataW.map [] : DataW Unit).put (.int .i32 p) (.lit (.int .i32 (([] : List (Int × ByteArray)).length : Nat)))) [(p, t)]) := Num.empty.put tidy_empty p t rfl
  have hes : (w.setCell ⟨kb, 0, none⟩ (.map (some w.heap.size))).heap.size = w.heap.size := by simp [World.setCell]
  have hmap0 : ((w.setCell ⟨kb, 0, none⟩ (.map (some w.heap.size))).alloc (.map #[] 0)).ownsMap Try.prog 21 (plainElem (H := Unit) Try.prog 21) w.heap.size 0 (.map []) := by
    have h := World.ownsMap_made (w.setCell ⟨kb, 0, none⟩ (.map (some w.heap.size))) Try.prog 21 (plainElem (H := Unit) Try.prog 21)
    rw [hes] at h
    exact h
  have hk0 : ((w.setCell ⟨kb, 0, none⟩ (.map (some w.heap.size))).alloc (.map #[] 0)).heap[kb]? = some (.cells #[.map (some w.heap.size), .slice ao 0 cp] 39 (0, 0)) := by
    rw [Below.heap_alloc _ _ _ (by rw [hes]; exact hlt), heap_setCell_same _ kb 0 _ 39 _ hk]; rfl
  have hrow0 : ((w.setCell ⟨kb, 0, none⟩ (.map (some w.heap.size))).alloc (.map #[] 0)).ownsRow (kb + 1) 50 2 (.slice ao 0 cp) 0 (flat []) := (ownsRow_setCell_below hrow (Nat.lt_succ_self _) _).alloc _
  have hbel0 : Below kb w ((w.setCell ⟨kb, 0, none⟩ (.map (some w.heap.size))).alloc (.map #[] 0)) := ((Below.refl kb w).setCell (Nat.le_refl _) _).alloc (by rw [hes]; omega) _
  have HM : Hid (((w.setCell ⟨kb, 0, none⟩ (.map (some w.heap.size))).alloc (.map #[] 0)).ownsMap Try.prog 21 (plainElem (H := Unit) Try.prog 21) w.heap.size 0 (.map [])) := hmap0
  have HK : Hid (((w.setCell ⟨kb, 0, none⟩ (.map (some w.heap.size))).alloc (.map #[] 0)).heap[kb]? = some (.cells #[.map (some w.heap.size), .slice ao 0 cp] 39 (0, 0))) := hk0
  have HR : Hid (((w.setCell ⟨kb, 0, none⟩ (.map (some w.heap.size))).alloc (.map #[] 0)).ownsRow (kb + 1) 50 2 (.slice ao 0 cp) 0 (flat [])) := hrow0
  have HB : Hid (Below kb w ((w.setCell ⟨kb, 0, none⟩ (.map (some w.heap.size))).alloc (.map #[] 0))) := hbel0
  have HE : Hid ((w.setCell ⟨kb, 0, none⟩ (.map (some w.heap.size))).heap.size = w.heap.size) := hes
  clear hmap0 hk0 hrow0 hbel0 hes hrow hk
  go_enter Try.func18, Try.ntmps18
  go_wp2_with (at_mapUpdate; refine wpList_mapUpdate_own _ rfl _ _ _ 36 rfl 21 21 law21 Try.underlying36 (plainElem (H := Unit) Try.prog 21) w.heap.size 0 _ rfl HM.out (by unfold maxLen; omega) _ _ _ rfl rfl hkey _ [] (plainElem_int Try.underlying21 (by decide)) ?_)
  intro w1 hmap1 hgr1
  have hsz1 := hgr1.size
  have hk1 : w1.heap[kb]? = some (.cells #[.map (some w.heap.size), .slice ao 0 cp] 39 (0, 0)) := by
    rw [hgr1.block kb (by simp; omega) (by simp; omega)]; exact HK.out
  have hrow1 := HR.out.kept hgr1 (.inr (row_not_map HR.out HM.out))
  have hbel1 : Below kb w w1 := HB.out.grown hgr1 (by simp; omega) (fun k e => by obtain rfl := Option.some.inj e; omega)
  obtain ⟨d0, d1, g0, g1, hlt1⟩ := two_cells hk1
  clear HK HR HM c0 c1 f0 f1 hgr1 hblk HB HE hrun
  go_wp2_with (at_builtin; refine wpList_append_own _ rfl _ _ 37 rfl (kb + 1) 50 i0 (.agg #[.string ⟨#[]⟩, .int .i32 0]) 2 24 Try.underlying37 hi hz0 hz1 hz2 rfl (by decide) _ _ _ rfl (hrow1.alloc _) ⟨w1.heap.size, 0, none⟩ 1 1 [.string t, .int .i32 p] rfl rfl ?c1 ?c2 ?c3 ?c4 ?c5 ?_)
  case c1 =>
    intro j u hj
    match j, hj with
    | 0, hj => simp at hj; subst hj; simp [Addr.add]
    | 1, hj => simp at hj; subst hj; simp [Addr.add]
  case c2 => intro u hu; simp at hu; rcases hu with rfl | rfl <;> rfl
  case c3 => unfold maxLen; omega
  case c4 => omega
  case c5 => simp; omega
  intro v' w2 hrow2 hgr2 _
  obtain ⟨ao2, cp2, rfl, _⟩ := own_shape hrow2
  obtain ⟨R1, R2, R3, R4, R5⟩ := kt_new (l := []) hk1 hlt hmap1 HN.out hbel1 hrow1 hrow2 hgr2
  clear hk1 hmap1 hbel1 hrow1 hrow2 hgr2 d0 d1 g0 g1
  go_wp2
  go_ret
  exact ⟨rfl, R1, R2⟩

theorem kt_below {w w' : World} {kb : Nat} {l : List (Int × ByteArray)} (h : KT w kb l) (hb : Below w.heap.size w w') : KT w' kb l := by
  obtain ⟨mv, tv, hk, hrow, hm⟩ := h
  have hg : w.grownBy w' none := ⟨hb.os, hb.tape, hb.output, hb.size, fun k hk _ => hb.block k hk⟩
  refine ⟨mv, tv, ?_, hrow.kept hg (by cases tv.ownBlock <;> simp), ?_⟩
  · rw [hb.block kb (Array.getElem?_eq_some_iff.1 hk).1]; exact hk
  · rcases hm with hm | ⟨mb, D, h1, h2, h3, h4⟩
    · exact .inl hm
    · exact .inr ⟨mb, D, h1, h2, h3.kept hg (by simp), h4⟩

/-- SPELL, WHATEVER THE KeyTexts HOLD: the number; the list with the new principal behind it, where it is new. -/
theorem spell_any (kb : Nat) (l : List (Int × ByteArray)) (p : Int) (t : ByteArray) (w : World) (hp : (Lit.int .i32 p).wf = true) (hl : l.length ≤ 4096) (hkt : KT w kb l) :
    Calls Try.prog 18 #[.pointer (some ⟨kb, 0, none⟩), .int .i32 p, .string t] w fun e w' => e = .returned (.int .i32 (ix l p : Nat)) ∧ KT w' kb (if ix l p < l.length then l else l ++ [(p, t)]) ∧ Below kb w w' := by
  have hkt0 := hkt
  obtain ⟨mv, tv, hk, hrow, hm⟩ := hkt
  rcases hm with ⟨rfl, rfl⟩ | ⟨mb, D, rfl, hmb, hmap, hnum⟩
  · refine (spell_nil kb tv p t w hp hk hrow).mono ?_
    rintro e w' ⟨rfl, h1, h2⟩
    exact ⟨rfl, h1, h2⟩
  · by_cases hin : ix l p < l.length
    · refine (spell_old kb mb tv l D p t w hp hk hmap hnum hin).mono ?_
      rintro e w' ⟨rfl, rfl⟩
      rw [if_pos hin]
      exact ⟨rfl, hkt0, Below.refl _ _⟩
    · have he : ix l p = l.length := by have := ix_le l p; omega
      refine (spell_new kb mb tv l D p t w hp hl hk hrow hmb hmap hnum he).mono ?_
      rintro e w' ⟨rfl, h1, h2⟩
      rw [if_neg hin, he]
      exact ⟨rfl, h1, h2⟩

end Go.Proofs.Qxb6602066a
