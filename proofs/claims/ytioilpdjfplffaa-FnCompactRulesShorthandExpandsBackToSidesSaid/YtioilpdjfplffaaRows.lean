/-
  No cell of these rows narrows 'for every input' (looked for: loops, veiled, ifaces, maps, wideKeys, modest, calm, conditions, laid).
  DERIVED. THE GIVEN ROWS OF THIS SEAT. 2 by the template 'for every input the law returns true; each argument reads behind the call as it read before'; 0 by the template 'total and deterministic' (their statements: YtioilpdjfplffaaTotals.lean).
  GIVEN WITH THE SEED: the statements are not yours to turn. If you find one false, say at which input.
  Laid BY PROGRAM, IN A SANDBOX (cutbox-rows.mjs): the forced cells as the released guide's own fill.sh prints them over the translation 6c92432271feb2f3… (all of the seat's roots in one cut). By AI agents, Wed Nov 11 2026. No macro, syntax, notation, axiom, sorry.
-/
import Derived.Test.YtioilpdjfplffaaChecked
import GoSem.Claim
import GoSem.ClaimJoined
import GoSem.ClaimMapViews
import Derived.JoinedTies
import Derived.KernelRfl
namespace Go.Proofs.Ytioilpdjfplffaa
/- THE CELL 'sum', in the pinned program and in every row, IS THE sha256 OF THE DUMP (.gsa) THAT YtioilpdjfplffaaProg.lean LOADS. Nothing in Lean hashes anything: it is a label: what it is worth is what the hold of that sum in a sandbox is worth. -/
noncomputable def Try.pinned : Pinned := { name := "ytioilpdjfplffaa", sum := "6c92432271feb2f3d3fba12e5f0499260adaa5170dccb5f195af88b3c731f712", checked := Try.checked }
namespace Rows
def none {H : Type} : Left H := { results := [], args := [] }

/-- 'n011_148.FnCompactRulesExactOutcome': WHATEVER THE INPUT: true; the input reads as it did. -/
def fnCompactRulesExactOutcomeSpec : ChangeSpec := { name := "fnCompactRulesExactOutcome", fn := fun _ => fun
  | [d1, d2, d3, d4, d5, d6, d7, d8, d9] => { results := [.lit (.bool true)], args := [d1, d2, d3, d4, d5, d6, d7, d8, d9] }
  | _ => none }
def fnCompactRulesExactOutcomeRow : OpenClaim := { program := "ytioilpdjfplffaa", sum := "6c92432271feb2f3d3fba12e5f0499260adaa5170dccb5f195af88b3c731f712", func := "github.com/evanw/esbuild/n011_148.FnCompactRulesExactOutcome", spec := "fnCompactRulesExactOutcome", recurses := true, apart := false }
def FnCompactRulesExactOutcomeSaid : Prop := fnCompactRulesExactOutcomeRow.holds Try.pinned (OpenSpec.ofChange fnCompactRulesExactOutcomeSpec)

/-- ITS FALSE NEIGHBOUR: 'it returns false'. Refute it at one input. -/
def fnCompactRulesExactOutcomeWrong : ChangeSpec := { name := "fnCompactRulesExactOutcome", fn := fun _ => fun
  | [d1, d2, d3, d4, d5, d6, d7, d8, d9] => { results := [.lit (.bool false)], args := [d1, d2, d3, d4, d5, d6, d7, d8, d9] }
  | _ => none }
def FnCompactRulesExactOutcomeWrongFalsely : Prop := fnCompactRulesExactOutcomeRow.holds Try.pinned (OpenSpec.ofChange fnCompactRulesExactOutcomeWrong)

/-- 'n011_148.FnCompactRulesShorthandExpandsBackToSides': WHATEVER THE INPUT: true; the input reads as it did. -/
def fnCompactRulesShorthandExpandsBackToSidesSpec : ChangeSpec := { name := "fnCompactRulesShorthandExpandsBackToSides", fn := fun _ => fun
  | [d1, d2, d3, d4] => { results := [.lit (.bool true)], args := [d1, d2, d3, d4] }
  | _ => none }
def fnCompactRulesShorthandExpandsBackToSidesRow : OpenClaim := { program := "ytioilpdjfplffaa", sum := "6c92432271feb2f3d3fba12e5f0499260adaa5170dccb5f195af88b3c731f712", func := "github.com/evanw/esbuild/n011_148.FnCompactRulesShorthandExpandsBackToSides", spec := "fnCompactRulesShorthandExpandsBackToSides", recurses := true, apart := false }
def FnCompactRulesShorthandExpandsBackToSidesSaid : Prop := fnCompactRulesShorthandExpandsBackToSidesRow.holds Try.pinned (OpenSpec.ofChange fnCompactRulesShorthandExpandsBackToSidesSpec)

/-- ITS FALSE NEIGHBOUR: 'it returns false'. Refute it at one input. -/
def fnCompactRulesShorthandExpandsBackToSidesWrong : ChangeSpec := { name := "fnCompactRulesShorthandExpandsBackToSides", fn := fun _ => fun
  | [d1, d2, d3, d4] => { results := [.lit (.bool false)], args := [d1, d2, d3, d4] }
  | _ => none }
def FnCompactRulesShorthandExpandsBackToSidesWrongFalsely : Prop := fnCompactRulesShorthandExpandsBackToSidesRow.holds Try.pinned (OpenSpec.ofChange fnCompactRulesShorthandExpandsBackToSidesWrong)

/- THE SECOND FORM. 'bulk': how many values and letters a reading holds, each counted each time it is reached (what is shared counts as often as it is met; a slice's spare places count too). A statement '..UptoSaid' is the law's where the arguments, and the package variables that the reading takes, are together of bulk at most 1048576: NARROWER than '..Said'. Prove '..Said' where nothing that the law and all that it calls make is longer than what came in: it says more and counts as full. Else prove '..UptoSaid'. A law counts once. -/
mutual
def uptoBulk {H : Type} : DataW H → Nat
  | .lit (.string bytes) => bytes.length + 1
  | .lit _ => 1
  | .nil => 1
  | .ptr d => uptoBulk d + 1
  | .slice elems spare => uptoBulkAll elems + uptoBulkAll spare + 1
  | .agg parts => uptoBulkAll parts + 1
  | .iface _ d => uptoBulk d + 1
  | .map entries => uptoBulkEntries entries + 1
  | .held _ => 1
def uptoBulkAll {H : Type} : List (DataW H) → Nat
  | [] => 0
  | d :: r => uptoBulk d + uptoBulkAll r
def uptoBulkEntries {H : Type} : List (Lit × DataW H) → Nat
  | [] => 0
  | x :: r => uptoBulkEntry x + uptoBulkEntries r
def uptoBulkEntry {H : Type} : Lit × DataW H → Nat
  | (.string bytes, d) => bytes.length + uptoBulk d + 1
  | (_, d) => uptoBulk d + 1
 end
def uptoSmall : (H : Type) → List (DataW H) → Bool := fun _ ds => decide (uptoBulkAll ds ≤ 1048576)
def OpenSpec.upto (s : _root_.Go.ChangeSpec) : _root_.Go.OpenSpec := { _root_.Go.OpenSpec.ofChange s with cond := some uptoSmall }

/-- 'n011_148.FnCompactRulesExactOutcome', WHERE WHAT IT READS IS OF BULK AT MOST 1048576: true; the input reads as it did. -/
def fnCompactRulesExactOutcomeUptoRow : OpenClaim := { program := "ytioilpdjfplffaa", sum := "6c92432271feb2f3d3fba12e5f0499260adaa5170dccb5f195af88b3c731f712", func := "github.com/evanw/esbuild/n011_148.FnCompactRulesExactOutcome", spec := "fnCompactRulesExactOutcome", recurses := true, apart := false, narrowed := true }
def FnCompactRulesExactOutcomeUptoSaid : Prop := fnCompactRulesExactOutcomeUptoRow.holds Try.pinned (OpenSpec.upto fnCompactRulesExactOutcomeSpec)

/-- 'n011_148.FnCompactRulesShorthandExpandsBackToSides', WHERE WHAT IT READS IS OF BULK AT MOST 1048576: true; the input reads as it did. -/
def fnCompactRulesShorthandExpandsBackToSidesUptoRow : OpenClaim := { program := "ytioilpdjfplffaa", sum := "6c92432271feb2f3d3fba12e5f0499260adaa5170dccb5f195af88b3c731f712", func := "github.com/evanw/esbuild/n011_148.FnCompactRulesShorthandExpandsBackToSides", spec := "fnCompactRulesShorthandExpandsBackToSides", recurses := true, apart := false, narrowed := true }
def FnCompactRulesShorthandExpandsBackToSidesUptoSaid : Prop := fnCompactRulesShorthandExpandsBackToSidesUptoRow.holds Try.pinned (OpenSpec.upto fnCompactRulesShorthandExpandsBackToSidesSpec)

end Rows
end Go.Proofs.Ytioilpdjfplffaa
