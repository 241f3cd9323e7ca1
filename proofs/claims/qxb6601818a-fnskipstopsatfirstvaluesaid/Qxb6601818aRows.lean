/-
  No cell of these rows narrows 'for every input' (looked for: loops, veiled, ifaces, maps, wideKeys, modest, calm, conditions, laid).
  DERIVED. THE GIVEN ROWS OF THIS SEAT. 6 by the template 'for every input the law returns true; each argument reads behind the call as it read before'; 0 by the template 'total and deterministic' (their statements: Qxb6601818aTotals.lean).
  GIVEN WITH THE SEED: the statements are not yours to turn. If you find one false, say at which input.
  Laid BY PROGRAM, IN A SANDBOX (cutbox-rows.mjs): the forced cells as the released guide's own fill.sh prints them over the translation 2ba929ebbda23437… (all of the seat's roots in one cut). By AI agents, Wed Nov 11 2026. No macro, syntax, notation, axiom, sorry.
-/
import Derived.Test.Qxb6601818aChecked
import GoSem.Claim
import GoSem.ClaimJoined
import GoSem.ClaimMapViews
import Derived.JoinedTies
import Derived.KernelRfl
namespace Go.Proofs.Qxb6601818a
/- THE CELL 'sum', in the pinned program and in every row, IS THE sha256 OF THE DUMP (.gsa) THAT Qxb6601818aProg.lean LOADS. Nothing in Lean hashes anything: it is a label: what it is worth is what the hold of that sum in a sandbox is worth. -/
noncomputable def Try.pinned : Pinned := { name := "qxb6601818a", sum := "2ba929ebbda234379fe203a0de92cbbceb00af190b8f6d78bd7482c120acb10a", checked := Try.checked }
namespace Rows
def none {H : Type} : Left H := { results := [], args := [] }

/-- 'zzlaws_plan_b1.FnLineStartsTileData': WHATEVER THE INPUT: true; the input reads as it did. -/
def fnLineStartsTileDataSpec : ChangeSpec := { name := "fnLineStartsTileData", fn := fun _ => fun
  | [d] => { results := [.lit (.bool true)], args := [d] }
  | _ => none }
def fnLineStartsTileDataRow : OpenClaim := { program := "qxb6601818a", sum := "2ba929ebbda234379fe203a0de92cbbceb00af190b8f6d78bd7482c120acb10a", func := "example.com/vestwright/vestwright/zzlaws_plan_b1.FnLineStartsTileData", spec := "fnLineStartsTileData", apart := false }
def FnLineStartsTileDataSaid : Prop := fnLineStartsTileDataRow.holds Try.pinned (OpenSpec.ofChange fnLineStartsTileDataSpec)

/-- ITS FALSE NEIGHBOUR: 'it returns false'. Refute it at one input. -/
def fnLineStartsTileDataWrong : ChangeSpec := { name := "fnLineStartsTileData", fn := fun _ => fun
  | [d] => { results := [.lit (.bool false)], args := [d] }
  | _ => none }
def FnLineStartsTileDataWrongFalsely : Prop := fnLineStartsTileDataRow.holds Try.pinned (OpenSpec.ofChange fnLineStartsTileDataWrong)

/-- 'zzlaws_plan_b1.FnLineStartsConcat': WHATEVER THE INPUT: true; the input reads as it did. -/
def fnLineStartsConcatSpec : ChangeSpec := { name := "fnLineStartsConcat", fn := fun _ => fun
  | [d1, d2] => { results := [.lit (.bool true)], args := [d1, d2] }
  | _ => none }
def fnLineStartsConcatRow : OpenClaim := { program := "qxb6601818a", sum := "2ba929ebbda234379fe203a0de92cbbceb00af190b8f6d78bd7482c120acb10a", func := "example.com/vestwright/vestwright/zzlaws_plan_b1.FnLineStartsConcat", spec := "fnLineStartsConcat", apart := false }
def FnLineStartsConcatSaid : Prop := fnLineStartsConcatRow.holds Try.pinned (OpenSpec.ofChange fnLineStartsConcatSpec)

/-- ITS FALSE NEIGHBOUR: 'it returns false'. Refute it at one input. -/
def fnLineStartsConcatWrong : ChangeSpec := { name := "fnLineStartsConcat", fn := fun _ => fun
  | [d1, d2] => { results := [.lit (.bool false)], args := [d1, d2] }
  | _ => none }
def FnLineStartsConcatWrongFalsely : Prop := fnLineStartsConcatRow.holds Try.pinned (OpenSpec.ofChange fnLineStartsConcatWrong)

/-- 'zzlaws_plan_b1.FnLineStartsCountNewlines': WHATEVER THE INPUT: true; the input reads as it did. -/
def fnLineStartsCountNewlinesSpec : ChangeSpec := { name := "fnLineStartsCountNewlines", fn := fun _ => fun
  | [d] => { results := [.lit (.bool true)], args := [d] }
  | _ => none }
def fnLineStartsCountNewlinesRow : OpenClaim := { program := "qxb6601818a", sum := "2ba929ebbda234379fe203a0de92cbbceb00af190b8f6d78bd7482c120acb10a", func := "example.com/vestwright/vestwright/zzlaws_plan_b1.FnLineStartsCountNewlines", spec := "fnLineStartsCountNewlines", apart := false }
def FnLineStartsCountNewlinesSaid : Prop := fnLineStartsCountNewlinesRow.holds Try.pinned (OpenSpec.ofChange fnLineStartsCountNewlinesSpec)

/-- ITS FALSE NEIGHBOUR: 'it returns false'. Refute it at one input. -/
def fnLineStartsCountNewlinesWrong : ChangeSpec := { name := "fnLineStartsCountNewlines", fn := fun _ => fun
  | [d] => { results := [.lit (.bool false)], args := [d] }
  | _ => none }
def FnLineStartsCountNewlinesWrongFalsely : Prop := fnLineStartsCountNewlinesRow.holds Try.pinned (OpenSpec.ofChange fnLineStartsCountNewlinesWrong)

/-- 'zzlaws_plan_b1.FnSkipStopsAtFirstValue': WHATEVER THE INPUT: true; the input reads as it did. -/
def fnSkipStopsAtFirstValueSpec : ChangeSpec := { name := "fnSkipStopsAtFirstValue", fn := fun _ => fun
  | [d1, d2, d3] => { results := [.lit (.bool true)], args := [d1, d2, d3] }
  | _ => none }
def fnSkipStopsAtFirstValueRow : OpenClaim := { program := "qxb6601818a", sum := "2ba929ebbda234379fe203a0de92cbbceb00af190b8f6d78bd7482c120acb10a", func := "example.com/vestwright/vestwright/zzlaws_plan_b1.FnSkipStopsAtFirstValue", spec := "fnSkipStopsAtFirstValue", apart := false }
def FnSkipStopsAtFirstValueSaid : Prop := fnSkipStopsAtFirstValueRow.holds Try.pinned (OpenSpec.ofChange fnSkipStopsAtFirstValueSpec)

/-- ITS FALSE NEIGHBOUR: 'it returns false'. Refute it at one input. -/
def fnSkipStopsAtFirstValueWrong : ChangeSpec := { name := "fnSkipStopsAtFirstValue", fn := fun _ => fun
  | [d1, d2, d3] => { results := [.lit (.bool false)], args := [d1, d2, d3] }
  | _ => none }
def FnSkipStopsAtFirstValueWrongFalsely : Prop := fnSkipStopsAtFirstValueRow.holds Try.pinned (OpenSpec.ofChange fnSkipStopsAtFirstValueWrong)

/-- 'zzlaws_plan_b1.FnSkipIdempotent': WHATEVER THE INPUT: true; the input reads as it did. -/
def fnSkipIdempotentSpec : ChangeSpec := { name := "fnSkipIdempotent", fn := fun _ => fun
  | [d1, d2, d3] => { results := [.lit (.bool true)], args := [d1, d2, d3] }
  | _ => none }
def fnSkipIdempotentRow : OpenClaim := { program := "qxb6601818a", sum := "2ba929ebbda234379fe203a0de92cbbceb00af190b8f6d78bd7482c120acb10a", func := "example.com/vestwright/vestwright/zzlaws_plan_b1.FnSkipIdempotent", spec := "fnSkipIdempotent", apart := false }
def FnSkipIdempotentSaid : Prop := fnSkipIdempotentRow.holds Try.pinned (OpenSpec.ofChange fnSkipIdempotentSpec)

/-- ITS FALSE NEIGHBOUR: 'it returns false'. Refute it at one input. -/
def fnSkipIdempotentWrong : ChangeSpec := { name := "fnSkipIdempotent", fn := fun _ => fun
  | [d1, d2, d3] => { results := [.lit (.bool false)], args := [d1, d2, d3] }
  | _ => none }
def FnSkipIdempotentWrongFalsely : Prop := fnSkipIdempotentRow.holds Try.pinned (OpenSpec.ofChange fnSkipIdempotentWrong)

/-- 'zzlaws_plan_b1.FnSkipReadsNoFurther': WHATEVER THE INPUT: true; the input reads as it did. -/
def fnSkipReadsNoFurtherSpec : ChangeSpec := { name := "fnSkipReadsNoFurther", fn := fun _ => fun
  | [d1, d2, d3] => { results := [.lit (.bool true)], args := [d1, d2, d3] }
  | _ => none }
def fnSkipReadsNoFurtherRow : OpenClaim := { program := "qxb6601818a", sum := "2ba929ebbda234379fe203a0de92cbbceb00af190b8f6d78bd7482c120acb10a", func := "example.com/vestwright/vestwright/zzlaws_plan_b1.FnSkipReadsNoFurther", spec := "fnSkipReadsNoFurther", apart := false }
def FnSkipReadsNoFurtherSaid : Prop := fnSkipReadsNoFurtherRow.holds Try.pinned (OpenSpec.ofChange fnSkipReadsNoFurtherSpec)

/-- ITS FALSE NEIGHBOUR: 'it returns false'. Refute it at one input. -/
def fnSkipReadsNoFurtherWrong : ChangeSpec := { name := "fnSkipReadsNoFurther", fn := fun _ => fun
  | [d1, d2, d3] => { results := [.lit (.bool false)], args := [d1, d2, d3] }
  | _ => none }
def FnSkipReadsNoFurtherWrongFalsely : Prop := fnSkipReadsNoFurtherRow.holds Try.pinned (OpenSpec.ofChange fnSkipReadsNoFurtherWrong)

end Rows
end Go.Proofs.Qxb6601818a
