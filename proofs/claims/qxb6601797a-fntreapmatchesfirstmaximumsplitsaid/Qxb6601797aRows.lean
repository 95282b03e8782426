/-
  NARROWER THAN 'FOR EVERY INPUT', by the rows' own cells (each row's printed sentence says how): FnSiteFindsOrAppends: maps, wideKeys.
  DERIVED. THE GIVEN ROWS OF THIS SEAT. 4 by the template 'for every input the law returns true; each argument reads behind the call as it read before'; 0 by the template 'total and deterministic' (their statements: Qxb6601797aTotals.lean).
  GIVEN WITH THE SEED: the statements are not yours to turn. If you find one false, say at which input.
  Laid BY PROGRAM, IN A SANDBOX (cutbox-rows.mjs): the forced cells as the released guide's own fill.sh prints them over the translation 28add12df3b225ca… (all of the seat's roots in one cut). By AI agents, Wed Nov 11 2026. No macro, syntax, notation, axiom, sorry.
-/
import Derived.Test.Qxb6601797aChecked
import GoSem.Claim
import GoSem.ClaimJoined
import GoSem.ClaimMapViews
import Derived.JoinedTies
import Derived.KernelRfl
namespace Go.Proofs.Qxb6601797a
/- THE CELL 'sum', in the pinned program and in every row, IS THE sha256 OF THE DUMP (.gsa) THAT Qxb6601797aProg.lean LOADS. Nothing in Lean hashes anything: it is a label: what it is worth is what the hold of that sum in a sandbox is worth. -/
noncomputable def Try.pinned : Pinned := { name := "qxb6601797a", sum := "28add12df3b225caf6c9fdcc1c69361daeba655bc0f002b76e7eed3d720fb46f", checked := Try.checked }
namespace Rows
def none {H : Type} : Left H := { results := [], args := [] }

/-- 'zzlaws_text_b1.FnNamesAboutBoundsDistinctSites': WHATEVER THE INPUT: true; the input reads as it did. -/
def fnNamesAboutBoundsDistinctSitesSpec : ChangeSpec := { name := "fnNamesAboutBoundsDistinctSites", fn := fun _ => fun
  | [d1, d2, d3, d4, d5, d6] => { results := [.lit (.bool true)], args := [d1, d2, d3, d4, d5, d6] }
  | _ => none }
def fnNamesAboutBoundsDistinctSitesRow : OpenClaim := { program := "qxb6601797a", sum := "28add12df3b225caf6c9fdcc1c69361daeba655bc0f002b76e7eed3d720fb46f", func := "example.com/vectrim/vectrim/zzlaws_text_b1.FnNamesAboutBoundsDistinctSites", spec := "fnNamesAboutBoundsDistinctSites", plainKeys := false, apart := false }
def FnNamesAboutBoundsDistinctSitesSaid : Prop := fnNamesAboutBoundsDistinctSitesRow.holds Try.pinned (OpenSpec.ofChange fnNamesAboutBoundsDistinctSitesSpec)

/-- ITS FALSE NEIGHBOUR: 'it returns false'. Refute it at one input. -/
def fnNamesAboutBoundsDistinctSitesWrong : ChangeSpec := { name := "fnNamesAboutBoundsDistinctSites", fn := fun _ => fun
  | [d1, d2, d3, d4, d5, d6] => { results := [.lit (.bool false)], args := [d1, d2, d3, d4, d5, d6] }
  | _ => none }
def FnNamesAboutBoundsDistinctSitesWrongFalsely : Prop := fnNamesAboutBoundsDistinctSitesRow.holds Try.pinned (OpenSpec.ofChange fnNamesAboutBoundsDistinctSitesWrong)

/-- 'zzlaws_text_b1.FnTreapMatchesFirstMaximumSplit': WHATEVER THE INPUT: true; the input reads as it did. -/
def fnTreapMatchesFirstMaximumSplitSpec : ChangeSpec := { name := "fnTreapMatchesFirstMaximumSplit", fn := fun _ => fun
  | [d1, d2, d3] => { results := [.lit (.bool true)], args := [d1, d2, d3] }
  | _ => none }
def fnTreapMatchesFirstMaximumSplitRow : OpenClaim := { program := "qxb6601797a", sum := "28add12df3b225caf6c9fdcc1c69361daeba655bc0f002b76e7eed3d720fb46f", func := "example.com/vectrim/vectrim/zzlaws_text_b1.FnTreapMatchesFirstMaximumSplit", spec := "fnTreapMatchesFirstMaximumSplit", recurses := true, plainKeys := false, apart := false }
def FnTreapMatchesFirstMaximumSplitSaid : Prop := fnTreapMatchesFirstMaximumSplitRow.holds Try.pinned (OpenSpec.ofChange fnTreapMatchesFirstMaximumSplitSpec)

/-- ITS FALSE NEIGHBOUR: 'it returns false'. Refute it at one input. -/
def fnTreapMatchesFirstMaximumSplitWrong : ChangeSpec := { name := "fnTreapMatchesFirstMaximumSplit", fn := fun _ => fun
  | [d1, d2, d3] => { results := [.lit (.bool false)], args := [d1, d2, d3] }
  | _ => none }
def FnTreapMatchesFirstMaximumSplitWrongFalsely : Prop := fnTreapMatchesFirstMaximumSplitRow.holds Try.pinned (OpenSpec.ofChange fnTreapMatchesFirstMaximumSplitWrong)

/-- 'zzlaws_text_b1.FnTreapIsSearchTreeAndHeap': WHATEVER THE INPUT: true; the input reads as it did. -/
def fnTreapIsSearchTreeAndHeapSpec : ChangeSpec := { name := "fnTreapIsSearchTreeAndHeap", fn := fun _ => fun
  | [d1, d2, d3] => { results := [.lit (.bool true)], args := [d1, d2, d3] }
  | _ => none }
def fnTreapIsSearchTreeAndHeapRow : OpenClaim := { program := "qxb6601797a", sum := "28add12df3b225caf6c9fdcc1c69361daeba655bc0f002b76e7eed3d720fb46f", func := "example.com/vectrim/vectrim/zzlaws_text_b1.FnTreapIsSearchTreeAndHeap", spec := "fnTreapIsSearchTreeAndHeap", plainKeys := false, apart := false }
def FnTreapIsSearchTreeAndHeapSaid : Prop := fnTreapIsSearchTreeAndHeapRow.holds Try.pinned (OpenSpec.ofChange fnTreapIsSearchTreeAndHeapSpec)

/-- ITS FALSE NEIGHBOUR: 'it returns false'. Refute it at one input. -/
def fnTreapIsSearchTreeAndHeapWrong : ChangeSpec := { name := "fnTreapIsSearchTreeAndHeap", fn := fun _ => fun
  | [d1, d2, d3] => { results := [.lit (.bool false)], args := [d1, d2, d3] }
  | _ => none }
def FnTreapIsSearchTreeAndHeapWrongFalsely : Prop := fnTreapIsSearchTreeAndHeapRow.holds Try.pinned (OpenSpec.ofChange fnTreapIsSearchTreeAndHeapWrong)

/-- 'zzlaws_text_b1.FnSiteFindsOrAppends': WHATEVER THE INPUT: true; the input reads as it did. -/
def fnSiteFindsOrAppendsSpec : ChangeSpec := { name := "fnSiteFindsOrAppends", fn := fun _ => fun
  | [d1, d2, d3, d4] => { results := [.lit (.bool true)], args := [d1, d2, d3, d4] }
  | _ => none }
def fnSiteFindsOrAppendsRow : OpenClaim := { program := "qxb6601797a", sum := "28add12df3b225caf6c9fdcc1c69361daeba655bc0f002b76e7eed3d720fb46f", func := "example.com/vectrim/vectrim/zzlaws_text_b1.FnSiteFindsOrAppends", spec := "fnSiteFindsOrAppends", maps := true, wideKeys := true, plainKeys := false, apart := false }
def FnSiteFindsOrAppendsSaid : Prop := fnSiteFindsOrAppendsRow.holds Try.pinned (OpenSpec.ofChange fnSiteFindsOrAppendsSpec)

/-- ITS FALSE NEIGHBOUR: 'it returns false'. Refute it at one input. -/
def fnSiteFindsOrAppendsWrong : ChangeSpec := { name := "fnSiteFindsOrAppends", fn := fun _ => fun
  | [d1, d2, d3, d4] => { results := [.lit (.bool false)], args := [d1, d2, d3, d4] }
  | _ => none }
def FnSiteFindsOrAppendsWrongFalsely : Prop := fnSiteFindsOrAppendsRow.holds Try.pinned (OpenSpec.ofChange fnSiteFindsOrAppendsWrong)

end Rows
end Go.Proofs.Qxb6601797a
