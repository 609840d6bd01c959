/-
  No cell of these rows narrows 'for every input' (looked for: loops, veiled, ifaces, maps, wideKeys, modest, calm, conditions, laid).
  DERIVED. THE GIVEN ROWS OF THIS SEAT. 4 by the template 'for every input the law returns true; each argument reads behind the call as it read before'; 0 by the template 'total and deterministic' (their statements: YtceafaddhbabhaaTotals.lean).
  GIVEN WITH THE SEED: the statements are not yours to turn. If you find one false, say at which input.
  Laid BY PROGRAM, IN A SANDBOX (cutbox-rows.mjs): the forced cells as the released guide's own fill.sh prints them over the translation 99fa1aa983927079… (all of the seat's roots in one cut). By AI agents, Wed Nov 11 2026. No macro, syntax, notation, axiom, sorry.
-/
import Derived.Test.YtceafaddhbabhaaChecked
import GoSem.Claim
import GoSem.ClaimJoined
import GoSem.ClaimMapViews
import Derived.JoinedTies
import Derived.KernelRfl
namespace Go.Proofs.Ytceafaddhbabhaa
/- THE CELL 'sum', in the pinned program and in every row, IS THE sha256 OF THE DUMP (.gsa) THAT YtceafaddhbabhaaProg.lean LOADS. Nothing in Lean hashes anything: it is a label: what it is worth is what the hold of that sum in a sandbox is worth. -/
noncomputable def Try.pinned : Pinned := { name := "ytceafaddhbabhaa", sum := "99fa1aa983927079675470c66971708e19e6348c72e51cafb51c7cd89e53883d", checked := Try.checked }
namespace Rows
def none {H : Type} : Left H := { results := [], args := [] }

/-- 'n011_10.FnCompactThenExpandGivesTheSameFourSides': WHATEVER THE INPUT: true; the input reads as it did. -/
def fnCompactThenExpandGivesTheSameFourSidesSpec : ChangeSpec := { name := "fnCompactThenExpandGivesTheSameFourSides", fn := fun _ => fun
  | [d1, d2, d3] => { results := [.lit (.bool true)], args := [d1, d2, d3] }
  | _ => none }
def fnCompactThenExpandGivesTheSameFourSidesRow : OpenClaim := { program := "ytceafaddhbabhaa", sum := "99fa1aa983927079675470c66971708e19e6348c72e51cafb51c7cd89e53883d", func := "github.com/evanw/esbuild/n011_10.FnCompactThenExpandGivesTheSameFourSides", spec := "fnCompactThenExpandGivesTheSameFourSides", recurses := true, apart := false }
def FnCompactThenExpandGivesTheSameFourSidesSaid : Prop := fnCompactThenExpandGivesTheSameFourSidesRow.holds Try.pinned (OpenSpec.ofChange fnCompactThenExpandGivesTheSameFourSidesSpec)

/-- ITS FALSE NEIGHBOUR: 'it returns false'. Refute it at one input. -/
def fnCompactThenExpandGivesTheSameFourSidesWrong : ChangeSpec := { name := "fnCompactThenExpandGivesTheSameFourSides", fn := fun _ => fun
  | [d1, d2, d3] => { results := [.lit (.bool false)], args := [d1, d2, d3] }
  | _ => none }
def FnCompactThenExpandGivesTheSameFourSidesWrongFalsely : Prop := fnCompactThenExpandGivesTheSameFourSidesRow.holds Try.pinned (OpenSpec.ofChange fnCompactThenExpandGivesTheSameFourSidesWrong)

/-- 'n011_10.FnScanMediaComparisonConsumesExactlyItsOperator': WHATEVER THE INPUT: true; the input reads as it did. -/
def fnScanMediaComparisonConsumesExactlyItsOperatorSpec : ChangeSpec := { name := "fnScanMediaComparisonConsumesExactlyItsOperator", fn := fun _ => fun
  | [d] => { results := [.lit (.bool true)], args := [d] }
  | _ => none }
def fnScanMediaComparisonConsumesExactlyItsOperatorRow : OpenClaim := { program := "ytceafaddhbabhaa", sum := "99fa1aa983927079675470c66971708e19e6348c72e51cafb51c7cd89e53883d", func := "github.com/evanw/esbuild/n011_10.FnScanMediaComparisonConsumesExactlyItsOperator", spec := "fnScanMediaComparisonConsumesExactlyItsOperator", apart := false }
def FnScanMediaComparisonConsumesExactlyItsOperatorSaid : Prop := fnScanMediaComparisonConsumesExactlyItsOperatorRow.holds Try.pinned (OpenSpec.ofChange fnScanMediaComparisonConsumesExactlyItsOperatorSpec)

/-- ITS FALSE NEIGHBOUR: 'it returns false'. Refute it at one input. -/
def fnScanMediaComparisonConsumesExactlyItsOperatorWrong : ChangeSpec := { name := "fnScanMediaComparisonConsumesExactlyItsOperator", fn := fun _ => fun
  | [d] => { results := [.lit (.bool false)], args := [d] }
  | _ => none }
def FnScanMediaComparisonConsumesExactlyItsOperatorWrongFalsely : Prop := fnScanMediaComparisonConsumesExactlyItsOperatorRow.holds Try.pinned (OpenSpec.ofChange fnScanMediaComparisonConsumesExactlyItsOperatorWrong)

/-- 'n011_10.FnExpandTokenQuadAcceptsExactlyOneToFourAllowedTokens': WHATEVER THE INPUT: true; the input reads as it did. -/
def fnExpandTokenQuadAcceptsExactlyOneToFourAllowedTokensSpec : ChangeSpec := { name := "fnExpandTokenQuadAcceptsExactlyOneToFourAllowedTokens", fn := fun _ => fun
  | [d1, d2] => { results := [.lit (.bool true)], args := [d1, d2] }
  | _ => none }
def fnExpandTokenQuadAcceptsExactlyOneToFourAllowedTokensRow : OpenClaim := { program := "ytceafaddhbabhaa", sum := "99fa1aa983927079675470c66971708e19e6348c72e51cafb51c7cd89e53883d", func := "github.com/evanw/esbuild/n011_10.FnExpandTokenQuadAcceptsExactlyOneToFourAllowedTokens", spec := "fnExpandTokenQuadAcceptsExactlyOneToFourAllowedTokens", apart := false }
def FnExpandTokenQuadAcceptsExactlyOneToFourAllowedTokensSaid : Prop := fnExpandTokenQuadAcceptsExactlyOneToFourAllowedTokensRow.holds Try.pinned (OpenSpec.ofChange fnExpandTokenQuadAcceptsExactlyOneToFourAllowedTokensSpec)

/-- ITS FALSE NEIGHBOUR: 'it returns false'. Refute it at one input. -/
def fnExpandTokenQuadAcceptsExactlyOneToFourAllowedTokensWrong : ChangeSpec := { name := "fnExpandTokenQuadAcceptsExactlyOneToFourAllowedTokens", fn := fun _ => fun
  | [d1, d2] => { results := [.lit (.bool false)], args := [d1, d2] }
  | _ => none }
def FnExpandTokenQuadAcceptsExactlyOneToFourAllowedTokensWrongFalsely : Prop := fnExpandTokenQuadAcceptsExactlyOneToFourAllowedTokensRow.holds Try.pinned (OpenSpec.ofChange fnExpandTokenQuadAcceptsExactlyOneToFourAllowedTokensWrong)

/-- 'n011_10.FnParseRangeMediaFeatureMirrorsAroundTheName': WHATEVER THE INPUT: true; the input reads as it did. -/
def fnParseRangeMediaFeatureMirrorsAroundTheNameSpec : ChangeSpec := { name := "fnParseRangeMediaFeatureMirrorsAroundTheName", fn := fun _ => fun
  | [d] => { results := [.lit (.bool true)], args := [d] }
  | _ => none }
def fnParseRangeMediaFeatureMirrorsAroundTheNameRow : OpenClaim := { program := "ytceafaddhbabhaa", sum := "99fa1aa983927079675470c66971708e19e6348c72e51cafb51c7cd89e53883d", func := "github.com/evanw/esbuild/n011_10.FnParseRangeMediaFeatureMirrorsAroundTheName", spec := "fnParseRangeMediaFeatureMirrorsAroundTheName", apart := false }
def FnParseRangeMediaFeatureMirrorsAroundTheNameSaid : Prop := fnParseRangeMediaFeatureMirrorsAroundTheNameRow.holds Try.pinned (OpenSpec.ofChange fnParseRangeMediaFeatureMirrorsAroundTheNameSpec)

/-- ITS FALSE NEIGHBOUR: 'it returns false'. Refute it at one input. -/
def fnParseRangeMediaFeatureMirrorsAroundTheNameWrong : ChangeSpec := { name := "fnParseRangeMediaFeatureMirrorsAroundTheName", fn := fun _ => fun
  | [d] => { results := [.lit (.bool false)], args := [d] }
  | _ => none }
def FnParseRangeMediaFeatureMirrorsAroundTheNameWrongFalsely : Prop := fnParseRangeMediaFeatureMirrorsAroundTheNameRow.holds Try.pinned (OpenSpec.ofChange fnParseRangeMediaFeatureMirrorsAroundTheNameWrong)

/- THE SECOND FORM. 'bulk': how many values and letters a reading holds, each counted each time it is reached (what is shared counts as often as it is met; a slice's spare places count too). A statement '..UptoSaid' is the law's where the arguments, and the package variables that the reading takes, are together of bulk at most 1048576: NARROWER than '..Said'. Prove '..Said' where nothing that the law and all that it calls make is longer than what came in: it says more and counts as full. Else prove '..UptoSaid'. A law counts once. -/
mutual
def uptoBulk {H : Type} : DataW H → Nat
  | .lit (.string bytes) => bytes.length + 1
  | .lit _ => 1
  | .nil => 1
  | .ptr d => uptoBulk d + 1
  | .slice elems spare => uptoBulkAll elems + uptoBulkAll spare + 1
  | .agg parts => uptoBulkAll parts + 1
  | .iface _ d => uptoBulk d + 1
  | .map entries => uptoBulkEntries entries + 1
  | .held _ => 1
def uptoBulkAll {H : Type} : List (DataW H) → Nat
  | [] => 0
  | d :: r => uptoBulk d + uptoBulkAll r
def uptoBulkEntries {H : Type} : List (Lit × DataW H) → Nat
  | [] => 0
  | x :: r => uptoBulkEntry x + uptoBulkEntries r
def uptoBulkEntry {H : Type} : Lit × DataW H → Nat
  | (.string bytes, d) => bytes.length + uptoBulk d + 1
  | (_, d) => uptoBulk d + 1
 end
def uptoSmall : (H : Type) → List (DataW H) → Bool := fun _ ds => decide (uptoBulkAll ds ≤ 1048576)
def OpenSpec.upto (s : _root_.Go.ChangeSpec) : _root_.Go.OpenSpec := { _root_.Go.OpenSpec.ofChange s with cond := some uptoSmall }

/-- 'n011_10.FnCompactThenExpandGivesTheSameFourSides', WHERE WHAT IT READS IS OF BULK AT MOST 1048576: true; the input reads as it did. -/
def fnCompactThenExpandGivesTheSameFourSidesUptoRow : OpenClaim := { program := "ytceafaddhbabhaa", sum := "99fa1aa983927079675470c66971708e19e6348c72e51cafb51c7cd89e53883d", func := "github.com/evanw/esbuild/n011_10.FnCompactThenExpandGivesTheSameFourSides", spec := "fnCompactThenExpandGivesTheSameFourSides", recurses := true, apart := false, narrowed := true }
def FnCompactThenExpandGivesTheSameFourSidesUptoSaid : Prop := fnCompactThenExpandGivesTheSameFourSidesUptoRow.holds Try.pinned (OpenSpec.upto fnCompactThenExpandGivesTheSameFourSidesSpec)

/-- 'n011_10.FnScanMediaComparisonConsumesExactlyItsOperator', WHERE WHAT IT READS IS OF BULK AT MOST 1048576: true; the input reads as it did. -/
def fnScanMediaComparisonConsumesExactlyItsOperatorUptoRow : OpenClaim := { program := "ytceafaddhbabhaa", sum := "99fa1aa983927079675470c66971708e19e6348c72e51cafb51c7cd89e53883d", func := "github.com/evanw/esbuild/n011_10.FnScanMediaComparisonConsumesExactlyItsOperator", spec := "fnScanMediaComparisonConsumesExactlyItsOperator", apart := false, narrowed := true }
def FnScanMediaComparisonConsumesExactlyItsOperatorUptoSaid : Prop := fnScanMediaComparisonConsumesExactlyItsOperatorUptoRow.holds Try.pinned (OpenSpec.upto fnScanMediaComparisonConsumesExactlyItsOperatorSpec)

/-- 'n011_10.FnExpandTokenQuadAcceptsExactlyOneToFourAllowedTokens', WHERE WHAT IT READS IS OF BULK AT MOST 1048576: true; the input reads as it did. -/
def fnExpandTokenQuadAcceptsExactlyOneToFourAllowedTokensUptoRow : OpenClaim := { program := "ytceafaddhbabhaa", sum := "99fa1aa983927079675470c66971708e19e6348c72e51cafb51c7cd89e53883d", func := "github.com/evanw/esbuild/n011_10.FnExpandTokenQuadAcceptsExactlyOneToFourAllowedTokens", spec := "fnExpandTokenQuadAcceptsExactlyOneToFourAllowedTokens", apart := false, narrowed := true }
def FnExpandTokenQuadAcceptsExactlyOneToFourAllowedTokensUptoSaid : Prop := fnExpandTokenQuadAcceptsExactlyOneToFourAllowedTokensUptoRow.holds Try.pinned (OpenSpec.upto fnExpandTokenQuadAcceptsExactlyOneToFourAllowedTokensSpec)

/-- 'n011_10.FnParseRangeMediaFeatureMirrorsAroundTheName', WHERE WHAT IT READS IS OF BULK AT MOST 1048576: true; the input reads as it did. -/
def fnParseRangeMediaFeatureMirrorsAroundTheNameUptoRow : OpenClaim := { program := "ytceafaddhbabhaa", sum := "99fa1aa983927079675470c66971708e19e6348c72e51cafb51c7cd89e53883d", func := "github.com/evanw/esbuild/n011_10.FnParseRangeMediaFeatureMirrorsAroundTheName", spec := "fnParseRangeMediaFeatureMirrorsAroundTheName", apart := false, narrowed := true }
def FnParseRangeMediaFeatureMirrorsAroundTheNameUptoSaid : Prop := fnParseRangeMediaFeatureMirrorsAroundTheNameUptoRow.holds Try.pinned (OpenSpec.upto fnParseRangeMediaFeatureMirrorsAroundTheNameSpec)

end Rows
end Go.Proofs.Ytceafaddhbabhaa
