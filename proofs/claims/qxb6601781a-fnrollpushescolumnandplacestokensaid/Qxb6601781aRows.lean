/-
  No cell of these rows narrows 'for every input' (looked for: loops, veiled, ifaces, maps, wideKeys, modest, calm, conditions, laid).
  DERIVED. THE GIVEN ROWS OF THIS SEAT. 4 by the template 'for every input the law returns true; each argument reads behind the call as it read before'; 0 by the template 'total and deterministic' (their statements: Qxb6601781aTotals.lean).
  GIVEN WITH THE SEED: the statements are not yours to turn. If you find one false, say at which input.
  Laid BY PROGRAM, IN A SANDBOX (cutbox-rows.mjs): the forced cells as the released guide's own fill.sh prints them over the translation 75878261438517c1… (all of the seat's roots in one cut). By AI agents, Wed Nov 11 2026. No macro, syntax, notation, axiom, sorry.
-/
import Derived.Test.Qxb6601781aChecked
import GoSem.Claim
import GoSem.ClaimJoined
import GoSem.ClaimMapViews
import Derived.JoinedTies
import Derived.KernelRfl
namespace Go.Proofs.Qxb6601781a
/- THE CELL 'sum', in the pinned program and in every row, IS THE sha256 OF THE DUMP (.gsa) THAT Qxb6601781aProg.lean LOADS. Nothing in Lean hashes anything: it is a label: what it is worth is what the hold of that sum in a sandbox is worth. -/
noncomputable def Try.pinned : Pinned := { name := "qxb6601781a", sum := "75878261438517c18bcea873b63088d8620f68d2a1699c8c9d17b9589cb60c8f", checked := Try.checked }
namespace Rows
def none {H : Type} : Left H := { results := [], args := [] }

/-- 'zzlaws_pipeline_b1.FnFoldEscapedCountsOneBreakLess': WHATEVER THE INPUT: true; the input reads as it did. -/
def fnFoldEscapedCountsOneBreakLessSpec : ChangeSpec := { name := "fnFoldEscapedCountsOneBreakLess", fn := fun _ => fun
  | [d1, d2, d3] => { results := [.lit (.bool true)], args := [d1, d2, d3] }
  | _ => none }
def fnFoldEscapedCountsOneBreakLessRow : OpenClaim := { program := "qxb6601781a", sum := "75878261438517c18bcea873b63088d8620f68d2a1699c8c9d17b9589cb60c8f", func := "example.com/pipewright/pipewright/zzlaws_pipeline_b1.FnFoldEscapedCountsOneBreakLess", spec := "fnFoldEscapedCountsOneBreakLess", apart := false }
def FnFoldEscapedCountsOneBreakLessSaid : Prop := fnFoldEscapedCountsOneBreakLessRow.holds Try.pinned (OpenSpec.ofChange fnFoldEscapedCountsOneBreakLessSpec)

/-- ITS FALSE NEIGHBOUR: 'it returns false'. Refute it at one input. -/
def fnFoldEscapedCountsOneBreakLessWrong : ChangeSpec := { name := "fnFoldEscapedCountsOneBreakLess", fn := fun _ => fun
  | [d1, d2, d3] => { results := [.lit (.bool false)], args := [d1, d2, d3] }
  | _ => none }
def FnFoldEscapedCountsOneBreakLessWrongFalsely : Prop := fnFoldEscapedCountsOneBreakLessRow.holds Try.pinned (OpenSpec.ofChange fnFoldEscapedCountsOneBreakLessWrong)

/-- 'zzlaws_pipeline_b1.FnNodeIsNullIgnoresLineAndTaggedText': WHATEVER THE INPUT: true; the input reads as it did. -/
def fnNodeIsNullIgnoresLineAndTaggedTextSpec : ChangeSpec := { name := "fnNodeIsNullIgnoresLineAndTaggedText", fn := fun _ => fun
  | [d1, d2, d3, d4, d5, d6, d7, d8] => { results := [.lit (.bool true)], args := [d1, d2, d3, d4, d5, d6, d7, d8] }
  | _ => none }
def fnNodeIsNullIgnoresLineAndTaggedTextRow : OpenClaim := { program := "qxb6601781a", sum := "75878261438517c18bcea873b63088d8620f68d2a1699c8c9d17b9589cb60c8f", func := "example.com/pipewright/pipewright/zzlaws_pipeline_b1.FnNodeIsNullIgnoresLineAndTaggedText", spec := "fnNodeIsNullIgnoresLineAndTaggedText", apart := false }
def FnNodeIsNullIgnoresLineAndTaggedTextSaid : Prop := fnNodeIsNullIgnoresLineAndTaggedTextRow.holds Try.pinned (OpenSpec.ofChange fnNodeIsNullIgnoresLineAndTaggedTextSpec)

/-- ITS FALSE NEIGHBOUR: 'it returns false'. Refute it at one input. -/
def fnNodeIsNullIgnoresLineAndTaggedTextWrong : ChangeSpec := { name := "fnNodeIsNullIgnoresLineAndTaggedText", fn := fun _ => fun
  | [d1, d2, d3, d4, d5, d6, d7, d8] => { results := [.lit (.bool false)], args := [d1, d2, d3, d4, d5, d6, d7, d8] }
  | _ => none }
def FnNodeIsNullIgnoresLineAndTaggedTextWrongFalsely : Prop := fnNodeIsNullIgnoresLineAndTaggedTextRow.holds Try.pinned (OpenSpec.ofChange fnNodeIsNullIgnoresLineAndTaggedTextWrong)

/-- 'zzlaws_pipeline_b1.FnRollPushesColumnAndPlacesToken': WHATEVER THE INPUT: true; the input reads as it did. -/
def fnRollPushesColumnAndPlacesTokenSpec : ChangeSpec := { name := "fnRollPushesColumnAndPlacesToken", fn := fun _ => fun
  | [d1, d2, d3, d4, d5, d6, d7, d8, d9, d10, d11, d12] => { results := [.lit (.bool true)], args := [d1, d2, d3, d4, d5, d6, d7, d8, d9, d10, d11, d12] }
  | _ => none }
def fnRollPushesColumnAndPlacesTokenRow : OpenClaim := { program := "qxb6601781a", sum := "75878261438517c18bcea873b63088d8620f68d2a1699c8c9d17b9589cb60c8f", func := "example.com/pipewright/pipewright/zzlaws_pipeline_b1.FnRollPushesColumnAndPlacesToken", spec := "fnRollPushesColumnAndPlacesToken", apart := false }
def FnRollPushesColumnAndPlacesTokenSaid : Prop := fnRollPushesColumnAndPlacesTokenRow.holds Try.pinned (OpenSpec.ofChange fnRollPushesColumnAndPlacesTokenSpec)

/-- ITS FALSE NEIGHBOUR: 'it returns false'. Refute it at one input. -/
def fnRollPushesColumnAndPlacesTokenWrong : ChangeSpec := { name := "fnRollPushesColumnAndPlacesToken", fn := fun _ => fun
  | [d1, d2, d3, d4, d5, d6, d7, d8, d9, d10, d11, d12] => { results := [.lit (.bool false)], args := [d1, d2, d3, d4, d5, d6, d7, d8, d9, d10, d11, d12] }
  | _ => none }
def FnRollPushesColumnAndPlacesTokenWrongFalsely : Prop := fnRollPushesColumnAndPlacesTokenRow.holds Try.pinned (OpenSpec.ofChange fnRollPushesColumnAndPlacesTokenWrong)

/-- 'zzlaws_pipeline_b1.FnRollScriptKeepsColumnsRising': WHATEVER THE INPUT: true; the input reads as it did. -/
def fnRollScriptKeepsColumnsRisingSpec : ChangeSpec := { name := "fnRollScriptKeepsColumnsRising", fn := fun _ => fun
  | [d1, d2] => { results := [.lit (.bool true)], args := [d1, d2] }
  | _ => none }
def fnRollScriptKeepsColumnsRisingRow : OpenClaim := { program := "qxb6601781a", sum := "75878261438517c18bcea873b63088d8620f68d2a1699c8c9d17b9589cb60c8f", func := "example.com/pipewright/pipewright/zzlaws_pipeline_b1.FnRollScriptKeepsColumnsRising", spec := "fnRollScriptKeepsColumnsRising", apart := false }
def FnRollScriptKeepsColumnsRisingSaid : Prop := fnRollScriptKeepsColumnsRisingRow.holds Try.pinned (OpenSpec.ofChange fnRollScriptKeepsColumnsRisingSpec)

/-- ITS FALSE NEIGHBOUR: 'it returns false'. Refute it at one input. -/
def fnRollScriptKeepsColumnsRisingWrong : ChangeSpec := { name := "fnRollScriptKeepsColumnsRising", fn := fun _ => fun
  | [d1, d2] => { results := [.lit (.bool false)], args := [d1, d2] }
  | _ => none }
def FnRollScriptKeepsColumnsRisingWrongFalsely : Prop := fnRollScriptKeepsColumnsRisingRow.holds Try.pinned (OpenSpec.ofChange fnRollScriptKeepsColumnsRisingWrong)

end Rows
end Go.Proofs.Qxb6601781a
