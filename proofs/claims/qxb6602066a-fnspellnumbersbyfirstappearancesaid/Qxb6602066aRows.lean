/-
  No cell of these rows narrows 'for every input' (looked for: loops, veiled, ifaces, maps, wideKeys, modest, calm, conditions, laid).
  DERIVED. THE GIVEN ROWS OF THIS SEAT. 5 by the template 'for every input the law returns true; each argument reads behind the call as it read before'; 0 by the template 'total and deterministic' (their statements: Qxb6602066aTotals.lean).
  GIVEN WITH THE SEED: the statements are not yours to turn. If you find one false, say at which input.
  Laid BY PROGRAM, IN A SANDBOX (cutbox-rows.mjs): the forced cells as the released guide's own fill.sh prints them over the translation db3c47b0e6264a3a… (all of the seat's roots in one cut). By AI agents, Wed Nov 11 2026. No macro, syntax, notation, axiom, sorry.
-/
import Derived.Test.Qxb6602066aChecked
import GoSem.Claim
import GoSem.ClaimJoined
import GoSem.ClaimMapViews
import Derived.JoinedTies
import Derived.KernelRfl
namespace Go.Proofs.Qxb6602066a
/- THE CELL 'sum', in the pinned program and in every row, IS THE sha256 OF THE DUMP (.gsa) THAT Qxb6602066aProg.lean LOADS. Nothing in Lean hashes anything: it is a label: what it is worth is what the hold of that sum in a sandbox is worth. -/
noncomputable def Try.pinned : Pinned := { name := "qxb6602066a", sum := "db3c47b0e6264a3ae2449a582e31107dddc122ae8a97178da90edf47315ed1f3", checked := Try.checked }
namespace Rows
def none {H : Type} : Left H := { results := [], args := [] }

/-- 'zzlaws_internal_proof_b1.FnQueuePopTakesLeastKeepsHeap': WHATEVER THE INPUT: true; the input reads as it did. -/
def fnQueuePopTakesLeastKeepsHeapSpec : ChangeSpec := { name := "fnQueuePopTakesLeastKeepsHeap", fn := fun _ => fun
  | [d] => { results := [.lit (.bool true)], args := [d] }
  | _ => none }
def fnQueuePopTakesLeastKeepsHeapRow : OpenClaim := { program := "qxb6602066a", sum := "db3c47b0e6264a3ae2449a582e31107dddc122ae8a97178da90edf47315ed1f3", func := "example.com/bare-authz/bare-authz/zzlaws_internal_proof_b1.FnQueuePopTakesLeastKeepsHeap", spec := "fnQueuePopTakesLeastKeepsHeap", apart := false }
def FnQueuePopTakesLeastKeepsHeapSaid : Prop := fnQueuePopTakesLeastKeepsHeapRow.holds Try.pinned (OpenSpec.ofChange fnQueuePopTakesLeastKeepsHeapSpec)

/-- ITS FALSE NEIGHBOUR: 'it returns false'. Refute it at one input. -/
def fnQueuePopTakesLeastKeepsHeapWrong : ChangeSpec := { name := "fnQueuePopTakesLeastKeepsHeap", fn := fun _ => fun
  | [d] => { results := [.lit (.bool false)], args := [d] }
  | _ => none }
def FnQueuePopTakesLeastKeepsHeapWrongFalsely : Prop := fnQueuePopTakesLeastKeepsHeapRow.holds Try.pinned (OpenSpec.ofChange fnQueuePopTakesLeastKeepsHeapWrong)

/-- 'zzlaws_internal_proof_b1.FnQueuePopAllInAscendingOrder': WHATEVER THE INPUT: true; the input reads as it did. -/
def fnQueuePopAllInAscendingOrderSpec : ChangeSpec := { name := "fnQueuePopAllInAscendingOrder", fn := fun _ => fun
  | [d] => { results := [.lit (.bool true)], args := [d] }
  | _ => none }
def fnQueuePopAllInAscendingOrderRow : OpenClaim := { program := "qxb6602066a", sum := "db3c47b0e6264a3ae2449a582e31107dddc122ae8a97178da90edf47315ed1f3", func := "example.com/bare-authz/bare-authz/zzlaws_internal_proof_b1.FnQueuePopAllInAscendingOrder", spec := "fnQueuePopAllInAscendingOrder", apart := false }
def FnQueuePopAllInAscendingOrderSaid : Prop := fnQueuePopAllInAscendingOrderRow.holds Try.pinned (OpenSpec.ofChange fnQueuePopAllInAscendingOrderSpec)

/-- ITS FALSE NEIGHBOUR: 'it returns false'. Refute it at one input. -/
def fnQueuePopAllInAscendingOrderWrong : ChangeSpec := { name := "fnQueuePopAllInAscendingOrder", fn := fun _ => fun
  | [d] => { results := [.lit (.bool false)], args := [d] }
  | _ => none }
def FnQueuePopAllInAscendingOrderWrongFalsely : Prop := fnQueuePopAllInAscendingOrderRow.holds Try.pinned (OpenSpec.ofChange fnQueuePopAllInAscendingOrderWrong)

/-- 'zzlaws_internal_proof_b1.FnAppendKeptIsDstThenRankedPlaces': WHATEVER THE INPUT: true; the input reads as it did. -/
def fnAppendKeptIsDstThenRankedPlacesSpec : ChangeSpec := { name := "fnAppendKeptIsDstThenRankedPlaces", fn := fun _ => fun
  | [d1, d2] => { results := [.lit (.bool true)], args := [d1, d2] }
  | _ => none }
def fnAppendKeptIsDstThenRankedPlacesRow : OpenClaim := { program := "qxb6602066a", sum := "db3c47b0e6264a3ae2449a582e31107dddc122ae8a97178da90edf47315ed1f3", func := "example.com/bare-authz/bare-authz/zzlaws_internal_proof_b1.FnAppendKeptIsDstThenRankedPlaces", spec := "fnAppendKeptIsDstThenRankedPlaces", apart := false }
def FnAppendKeptIsDstThenRankedPlacesSaid : Prop := fnAppendKeptIsDstThenRankedPlacesRow.holds Try.pinned (OpenSpec.ofChange fnAppendKeptIsDstThenRankedPlacesSpec)

/-- ITS FALSE NEIGHBOUR: 'it returns false'. Refute it at one input. -/
def fnAppendKeptIsDstThenRankedPlacesWrong : ChangeSpec := { name := "fnAppendKeptIsDstThenRankedPlaces", fn := fun _ => fun
  | [d1, d2] => { results := [.lit (.bool false)], args := [d1, d2] }
  | _ => none }
def FnAppendKeptIsDstThenRankedPlacesWrongFalsely : Prop := fnAppendKeptIsDstThenRankedPlacesRow.holds Try.pinned (OpenSpec.ofChange fnAppendKeptIsDstThenRankedPlacesWrong)

/-- 'zzlaws_internal_proof_b1.FnAppendKeptSplitsOverConcatenation': WHATEVER THE INPUT: true; the input reads as it did. -/
def fnAppendKeptSplitsOverConcatenationSpec : ChangeSpec := { name := "fnAppendKeptSplitsOverConcatenation", fn := fun _ => fun
  | [d1, d2] => { results := [.lit (.bool true)], args := [d1, d2] }
  | _ => none }
def fnAppendKeptSplitsOverConcatenationRow : OpenClaim := { program := "qxb6602066a", sum := "db3c47b0e6264a3ae2449a582e31107dddc122ae8a97178da90edf47315ed1f3", func := "example.com/bare-authz/bare-authz/zzlaws_internal_proof_b1.FnAppendKeptSplitsOverConcatenation", spec := "fnAppendKeptSplitsOverConcatenation", apart := false }
def FnAppendKeptSplitsOverConcatenationSaid : Prop := fnAppendKeptSplitsOverConcatenationRow.holds Try.pinned (OpenSpec.ofChange fnAppendKeptSplitsOverConcatenationSpec)

/-- ITS FALSE NEIGHBOUR: 'it returns false'. Refute it at one input. -/
def fnAppendKeptSplitsOverConcatenationWrong : ChangeSpec := { name := "fnAppendKeptSplitsOverConcatenation", fn := fun _ => fun
  | [d1, d2] => { results := [.lit (.bool false)], args := [d1, d2] }
  | _ => none }
def FnAppendKeptSplitsOverConcatenationWrongFalsely : Prop := fnAppendKeptSplitsOverConcatenationRow.holds Try.pinned (OpenSpec.ofChange fnAppendKeptSplitsOverConcatenationWrong)

/-- 'zzlaws_internal_proof_b1.FnSpellNumbersByFirstAppearance': WHATEVER THE INPUT: true; the input reads as it did. -/
def fnSpellNumbersByFirstAppearanceSpec : ChangeSpec := { name := "fnSpellNumbersByFirstAppearance", fn := fun _ => fun
  | [d] => { results := [.lit (.bool true)], args := [d] }
  | _ => none }
def fnSpellNumbersByFirstAppearanceRow : OpenClaim := { program := "qxb6602066a", sum := "db3c47b0e6264a3ae2449a582e31107dddc122ae8a97178da90edf47315ed1f3", func := "example.com/bare-authz/bare-authz/zzlaws_internal_proof_b1.FnSpellNumbersByFirstAppearance", spec := "fnSpellNumbersByFirstAppearance", apart := false }
def FnSpellNumbersByFirstAppearanceSaid : Prop := fnSpellNumbersByFirstAppearanceRow.holds Try.pinned (OpenSpec.ofChange fnSpellNumbersByFirstAppearanceSpec)

/-- ITS FALSE NEIGHBOUR: 'it returns false'. Refute it at one input. -/
def fnSpellNumbersByFirstAppearanceWrong : ChangeSpec := { name := "fnSpellNumbersByFirstAppearance", fn := fun _ => fun
  | [d] => { results := [.lit (.bool false)], args := [d] }
  | _ => none }
def FnSpellNumbersByFirstAppearanceWrongFalsely : Prop := fnSpellNumbersByFirstAppearanceRow.holds Try.pinned (OpenSpec.ofChange fnSpellNumbersByFirstAppearanceWrong)

end Rows
end Go.Proofs.Qxb6602066a
