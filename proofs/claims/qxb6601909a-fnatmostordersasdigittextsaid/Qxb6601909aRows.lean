/-
  No cell of these rows narrows 'for every input' (looked for: loops, veiled, ifaces, maps, wideKeys, modest, calm, conditions, laid).
  DERIVED. THE GIVEN ROWS OF THIS SEAT. 2 by the template 'for every input the law returns true; each argument reads behind the call as it read before'; 0 by the template 'total and deterministic' (their statements: Qxb6601909aTotals.lean).
  GIVEN WITH THE SEED: the statements are not yours to turn. If you find one false, say at which input.
  Laid BY PROGRAM, IN A SANDBOX (cutbox-rows.mjs): the forced cells as the released guide's own fill.sh prints them over the translation f044a468f734eba4… (all of the seat's roots in one cut). By AI agents, Wed Nov 11 2026. No macro, syntax, notation, axiom, sorry.
-/
import Derived.Test.Qxb6601909aChecked
import GoSem.Claim
import GoSem.ClaimJoined
import GoSem.ClaimMapViews
import Derived.JoinedTies
import Derived.KernelRfl
namespace Go.Proofs.Qxb6601909a
/- THE CELL 'sum', in the pinned program and in every row, IS THE sha256 OF THE DUMP (.gsa) THAT Qxb6601909aProg.lean LOADS. Nothing in Lean hashes anything: it is a label: what it is worth is what the hold of that sum in a sandbox is worth. -/
noncomputable def Try.pinned : Pinned := { name := "qxb6601909a", sum := "f044a468f734eba4a566cbcbc779bd946981a5077afe3f31f96088882c7deb47", checked := Try.checked }
namespace Rows
def none {H : Type} : Left H := { results := [], args := [] }

/-- 'zzlaws_internal_history_b1.FnAtMostReadsDigitsExactly': WHATEVER THE INPUT: true; the input reads as it did. -/
def fnAtMostReadsDigitsExactlySpec : ChangeSpec := { name := "fnAtMostReadsDigitsExactly", fn := fun _ => fun
  | [d1, d2, d3] => { results := [.lit (.bool true)], args := [d1, d2, d3] }
  | _ => none }
def fnAtMostReadsDigitsExactlyRow : OpenClaim := { program := "qxb6601909a", sum := "f044a468f734eba4a566cbcbc779bd946981a5077afe3f31f96088882c7deb47", func := "example.com/linewise/linewise/zzlaws_internal_history_b1.FnAtMostReadsDigitsExactly", spec := "fnAtMostReadsDigitsExactly", apart := false }
def FnAtMostReadsDigitsExactlySaid : Prop := fnAtMostReadsDigitsExactlyRow.holds Try.pinned (OpenSpec.ofChange fnAtMostReadsDigitsExactlySpec)

/-- ITS FALSE NEIGHBOUR: 'it returns false'. Refute it at one input. -/
def fnAtMostReadsDigitsExactlyWrong : ChangeSpec := { name := "fnAtMostReadsDigitsExactly", fn := fun _ => fun
  | [d1, d2, d3] => { results := [.lit (.bool false)], args := [d1, d2, d3] }
  | _ => none }
def FnAtMostReadsDigitsExactlyWrongFalsely : Prop := fnAtMostReadsDigitsExactlyRow.holds Try.pinned (OpenSpec.ofChange fnAtMostReadsDigitsExactlyWrong)

/-- 'zzlaws_internal_history_b1.FnAtMostOrdersAsDigitText': WHATEVER THE INPUT: true; the input reads as it did. -/
def fnAtMostOrdersAsDigitTextSpec : ChangeSpec := { name := "fnAtMostOrdersAsDigitText", fn := fun _ => fun
  | [d1, d2, d3, d4, d5] => { results := [.lit (.bool true)], args := [d1, d2, d3, d4, d5] }
  | _ => none }
def fnAtMostOrdersAsDigitTextRow : OpenClaim := { program := "qxb6601909a", sum := "f044a468f734eba4a566cbcbc779bd946981a5077afe3f31f96088882c7deb47", func := "example.com/linewise/linewise/zzlaws_internal_history_b1.FnAtMostOrdersAsDigitText", spec := "fnAtMostOrdersAsDigitText", apart := false }
def FnAtMostOrdersAsDigitTextSaid : Prop := fnAtMostOrdersAsDigitTextRow.holds Try.pinned (OpenSpec.ofChange fnAtMostOrdersAsDigitTextSpec)

/-- ITS FALSE NEIGHBOUR: 'it returns false'. Refute it at one input. -/
def fnAtMostOrdersAsDigitTextWrong : ChangeSpec := { name := "fnAtMostOrdersAsDigitText", fn := fun _ => fun
  | [d1, d2, d3, d4, d5] => { results := [.lit (.bool false)], args := [d1, d2, d3, d4, d5] }
  | _ => none }
def FnAtMostOrdersAsDigitTextWrongFalsely : Prop := fnAtMostOrdersAsDigitTextRow.holds Try.pinned (OpenSpec.ofChange fnAtMostOrdersAsDigitTextWrong)

end Rows
end Go.Proofs.Qxb6601909a
