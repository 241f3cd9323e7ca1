/-
  SEAT b6602066a: how the calls read ('RdC'); the bound on total length (function 17).
-/
import Derived.Test.Qxb6602066aGet
namespace Go.Proofs.Qxb6602066a
open Go.RowKit

/-- The slice value v reads, in w, as the calls cs. -/
def RdC (w : World) (v : Value) (cs : List (Int × ByteArray)) : Prop :=
  ∃ ao cap, v = .slice ao cs.length cap ∧ (∀ i, i < cs.length → (Lit.int .i32 (cl cs i).1).wf = true) ∧
    (0 < cs.length → ∃ b off, ao = some ⟨b, off, none⟩ ∧ b < w.heap.size ∧ ∀ i, i < cs.length → w.cell? ⟨b, off + i * 2, none⟩ = some (.int .i32 (cl cs i).1) ∧ w.cell? ⟨b, off + i * 2 + 1, none⟩ = some (.string (cl cs i).2))

section
variable {w w' : World} {ao : Option Addr} {n cap : Nat} {cs : List (Int × ByteArray)}

theorem RdC.at (h : RdC w (.slice ao n cap) cs) (h0 : 0 < cs.length) : ∃ b off, ao = some ⟨b, off, none⟩ ∧ b < w.heap.size ∧ ∀ i, i < cs.length → w.cell? ⟨b, off + i * 2, none⟩ = some (.int .i32 (cl cs i).1) ∧ w.cell? ⟨b, off + i * 2 + 1, none⟩ = some (.string (cl cs i).2) := by
  obtain ⟨ao', cap', hv, _, h4⟩ := h
  simp only [Value.slice.injEq] at hv
  obtain ⟨rfl, rfl, rfl⟩ := hv
  exact h4 h0

theorem RdC.below {v : Value} (h : RdC w v cs) (hb : Below w.heap.size w w') : RdC w' v cs := by
  obtain ⟨ao', cap', rfl, hw, h4⟩ := h
  refine ⟨ao', cap', rfl, hw, fun h0 => ?_⟩
  obtain ⟨b, off, rfl, hbw, hc⟩ := h4 h0
  refine ⟨b, off, rfl, Nat.lt_of_lt_of_le hbw hb.size, fun i hi => ?_⟩
  rw [hb.cell (p := ⟨b, off + i * 2, none⟩) hbw, hb.cell (p := ⟨b, off + i * 2 + 1, none⟩) hbw]
  exact hc i hi
end

/-- It returns one bool or the other. -/
def BoolRet (e : Ending) : Prop := ∃ b, e = .returned (.bool b)

set_option maxHeartbeats 1600000 in
set_option maxRecDepth 100000 in
theorem bytes17 (ao : Option Addr) (n cap : Nat) (cs : List (Int × ByteArray)) (w : World) (hl : cs.length = n) (hrd : RdC w (.slice ao n cap) cs) :
    Calls Try.prog 17 #[.slice ao n cap] w fun e w' => BoolRet e ∧ w = w' := by
  have HL : Hid (cs.length = n) := hl
  clear hl
  by_cases hn : n ≤ 1048576
  · go_enter Try.func17, Try.ntmps17
    go_wp2
    go_loop [3, 4] (fun z i => ∃ (k : Nat) (x : Int), k ≤ n ∧ i = .int .i64 k ∧ z = .int .i64 x ∧ 0 ≤ x ∧ x ≤ 1048576) (fun _ i => n - (intOf i).toNat)
    case atStart => exact ⟨0, n, Nat.zero_le _, rfl, rfl, by omega, by omega⟩
    case round =>
      obtain ⟨k, x, hk, rfl, rfl, hx1, hx2⟩ := hrel
      by_cases hlt : k < n
      · obtain ⟨b, off, rfl, _, hc⟩ := hrd.at (by rw [HL.out]; omega)
        obtain ⟨h1, h2⟩ := hc k (by rw [HL.out]; exact hlt)
        obtain ⟨t, ht⟩ : ∃ t, t = (cl cs k).2 := ⟨_, rfl⟩
        rw [← ht] at h2
        clear hc ht hrd
        by_cases hs : t.size ≤ 1048576
        · by_cases hx3 : x + (t.size : Int) ≤ 1048576
          · go_wp2
            go_round
            case rel => exact ⟨k + 1, x + t.size, by omega, by go_num, rfl, by omega, hx3⟩
            case measure => simp [intOf]; omega
          · go_wp2
            go_ret
            exact ⟨⟨_, rfl⟩, rfl⟩
        · go_wp2
          go_ret
          exact ⟨⟨_, rfl⟩, rfl⟩
      · go_wp2
        go_ret
        exact ⟨⟨_, rfl⟩, rfl⟩
  · clear hrd
    go_enter Try.func17, Try.ntmps17
    go_wp2
    go_ret
    exact ⟨⟨_, rfl⟩, rfl⟩

end Go.Proofs.Qxb6602066a
