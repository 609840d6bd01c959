/-
  No cell of these rows narrows 'for every input' (looked for: loops, veiled, ifaces, maps, wideKeys, modest, calm, conditions, laid).
  DERIVED. THE GIVEN ROWS OF THIS SEAT. 5 by the template 'for every input the law returns true; each argument reads behind the call as it read before'; 0 by the template 'total and deterministic' (their statements: YtcaiehnihgcegaaTotals.lean).
  GIVEN WITH THE SEED: the statements are not yours to turn. If you find one false, say at which input.
  Laid BY PROGRAM, IN A SANDBOX (cutbox-rows.mjs): the forced cells as the released guide's own fill.sh prints them over the translation 36b4cb2e867c6ce7… (all of the seat's roots in one cut). By AI agents, Wed Nov 11 2026. No macro, syntax, notation, axiom, sorry.
-/
import Derived.Test.YtcaiehnihgcegaaChecked
import GoSem.Claim
import GoSem.ClaimJoined
import GoSem.ClaimMapViews
import Derived.JoinedTies
import Derived.KernelRfl
namespace Go.Proofs.Ytcaiehnihgcegaa
/- THE CELL 'sum', in the pinned program and in every row, IS THE sha256 OF THE DUMP (.gsa) THAT YtcaiehnihgcegaaProg.lean LOADS. Nothing in Lean hashes anything: it is a label: what it is worth is what the hold of that sum in a sandbox is worth. -/
noncomputable def Try.pinned : Pinned := { name := "ytcaiehnihgcegaa", sum := "36b4cb2e867c6ce7d4ba24eedc63582f72f627314cff104823f6eddee2f3e767", checked := Try.checked }
namespace Rows
def none {H : Type} : Left H := { results := [], args := [] }

/-- 'n011_126.FnHslToRgbZeroSaturationIsExactGray': WHATEVER THE INPUT: true; the input reads as it did. -/
def fnHslToRgbZeroSaturationIsExactGraySpec : ChangeSpec := { name := "fnHslToRgbZeroSaturationIsExactGray", fn := fun _ => fun
  | [d1, d2] => { results := [.lit (.bool true)], args := [d1, d2] }
  | _ => none }
def fnHslToRgbZeroSaturationIsExactGrayRow : OpenClaim := { program := "ytcaiehnihgcegaa", sum := "36b4cb2e867c6ce7d4ba24eedc63582f72f627314cff104823f6eddee2f3e767", func := "github.com/evanw/esbuild/n011_126.FnHslToRgbZeroSaturationIsExactGray", spec := "fnHslToRgbZeroSaturationIsExactGray", inPlace := ["math.archFloor", "math.Float64bits", "math.Float64frombits", "math.archTrunc"], plainKeys := false, apart := false }
def FnHslToRgbZeroSaturationIsExactGraySaid : Prop := fnHslToRgbZeroSaturationIsExactGrayRow.holds Try.pinned (OpenSpec.ofChange fnHslToRgbZeroSaturationIsExactGraySpec)

/-- ITS FALSE NEIGHBOUR: 'it returns false'. Refute it at one input. -/
def fnHslToRgbZeroSaturationIsExactGrayWrong : ChangeSpec := { name := "fnHslToRgbZeroSaturationIsExactGray", fn := fun _ => fun
  | [d1, d2] => { results := [.lit (.bool false)], args := [d1, d2] }
  | _ => none }
def FnHslToRgbZeroSaturationIsExactGrayWrongFalsely : Prop := fnHslToRgbZeroSaturationIsExactGrayRow.holds Try.pinned (OpenSpec.ofChange fnHslToRgbZeroSaturationIsExactGrayWrong)

/-- 'n011_126.FnHwbToRgbMatchesCssClosedForm': WHATEVER THE INPUT: true; the input reads as it did. -/
def fnHwbToRgbMatchesCssClosedFormSpec : ChangeSpec := { name := "fnHwbToRgbMatchesCssClosedForm", fn := fun _ => fun
  | [d1, d2, d3] => { results := [.lit (.bool true)], args := [d1, d2, d3] }
  | _ => none }
def fnHwbToRgbMatchesCssClosedFormRow : OpenClaim := { program := "ytcaiehnihgcegaa", sum := "36b4cb2e867c6ce7d4ba24eedc63582f72f627314cff104823f6eddee2f3e767", func := "github.com/evanw/esbuild/n011_126.FnHwbToRgbMatchesCssClosedForm", spec := "fnHwbToRgbMatchesCssClosedForm", inPlace := ["math.archFloor", "math.Float64bits", "math.Float64frombits", "math.archTrunc"], plainKeys := false, apart := false }
def FnHwbToRgbMatchesCssClosedFormSaid : Prop := fnHwbToRgbMatchesCssClosedFormRow.holds Try.pinned (OpenSpec.ofChange fnHwbToRgbMatchesCssClosedFormSpec)

/-- ITS FALSE NEIGHBOUR: 'it returns false'. Refute it at one input. -/
def fnHwbToRgbMatchesCssClosedFormWrong : ChangeSpec := { name := "fnHwbToRgbMatchesCssClosedForm", fn := fun _ => fun
  | [d1, d2, d3] => { results := [.lit (.bool false)], args := [d1, d2, d3] }
  | _ => none }
def FnHwbToRgbMatchesCssClosedFormWrongFalsely : Prop := fnHwbToRgbMatchesCssClosedFormRow.holds Try.pinned (OpenSpec.ofChange fnHwbToRgbMatchesCssClosedFormWrong)

/-- 'n011_18.FnParseIntegerIdempotent': WHATEVER THE INPUT: true; the input reads as it did. -/
def fnParseIntegerIdempotentSpec : ChangeSpec := { name := "fnParseIntegerIdempotent", fn := fun _ => fun
  | [d] => { results := [.lit (.bool true)], args := [d] }
  | _ => none }
def fnParseIntegerIdempotentRow : OpenClaim := { program := "ytcaiehnihgcegaa", sum := "36b4cb2e867c6ce7d4ba24eedc63582f72f627314cff104823f6eddee2f3e767", func := "github.com/evanw/esbuild/n011_18.FnParseIntegerIdempotent", spec := "fnParseIntegerIdempotent", plainKeys := false, apart := false }
def FnParseIntegerIdempotentSaid : Prop := fnParseIntegerIdempotentRow.holds Try.pinned (OpenSpec.ofChange fnParseIntegerIdempotentSpec)

/-- ITS FALSE NEIGHBOUR: 'it returns false'. Refute it at one input. -/
def fnParseIntegerIdempotentWrong : ChangeSpec := { name := "fnParseIntegerIdempotent", fn := fun _ => fun
  | [d] => { results := [.lit (.bool false)], args := [d] }
  | _ => none }
def FnParseIntegerIdempotentWrongFalsely : Prop := fnParseIntegerIdempotentRow.holds Try.pinned (OpenSpec.ofChange fnParseIntegerIdempotentWrong)

/-- 'n011_101.FnAdvanceScript': WHATEVER THE INPUT: true; the input reads as it did. -/
def fnAdvanceScriptSpec : ChangeSpec := { name := "fnAdvanceScript", fn := fun _ => fun
  | [d1, d2, d3, d4, d5, d6] => { results := [.lit (.bool true)], args := [d1, d2, d3, d4, d5, d6] }
  | _ => none }
def fnAdvanceScriptRow : OpenClaim := { program := "ytcaiehnihgcegaa", sum := "36b4cb2e867c6ce7d4ba24eedc63582f72f627314cff104823f6eddee2f3e767", func := "github.com/evanw/esbuild/n011_101.FnAdvanceScript", spec := "fnAdvanceScript", plainKeys := false, apart := false }
def FnAdvanceScriptSaid : Prop := fnAdvanceScriptRow.holds Try.pinned (OpenSpec.ofChange fnAdvanceScriptSpec)

/-- ITS FALSE NEIGHBOUR: 'it returns false'. Refute it at one input. -/
def fnAdvanceScriptWrong : ChangeSpec := { name := "fnAdvanceScript", fn := fun _ => fun
  | [d1, d2, d3, d4, d5, d6] => { results := [.lit (.bool false)], args := [d1, d2, d3, d4, d5, d6] }
  | _ => none }
def FnAdvanceScriptWrongFalsely : Prop := fnAdvanceScriptRow.holds Try.pinned (OpenSpec.ofChange fnAdvanceScriptWrong)

/-- 'n011_101.FnNextIsCurrentAfterAdvance': WHATEVER THE INPUT: true; the input reads as it did. -/
def fnNextIsCurrentAfterAdvanceSpec : ChangeSpec := { name := "fnNextIsCurrentAfterAdvance", fn := fun _ => fun
  | [d1, d2, d3, d4, d5] => { results := [.lit (.bool true)], args := [d1, d2, d3, d4, d5] }
  | _ => none }
def fnNextIsCurrentAfterAdvanceRow : OpenClaim := { program := "ytcaiehnihgcegaa", sum := "36b4cb2e867c6ce7d4ba24eedc63582f72f627314cff104823f6eddee2f3e767", func := "github.com/evanw/esbuild/n011_101.FnNextIsCurrentAfterAdvance", spec := "fnNextIsCurrentAfterAdvance", plainKeys := false, apart := false }
def FnNextIsCurrentAfterAdvanceSaid : Prop := fnNextIsCurrentAfterAdvanceRow.holds Try.pinned (OpenSpec.ofChange fnNextIsCurrentAfterAdvanceSpec)

/-- ITS FALSE NEIGHBOUR: 'it returns false'. Refute it at one input. -/
def fnNextIsCurrentAfterAdvanceWrong : ChangeSpec := { name := "fnNextIsCurrentAfterAdvance", fn := fun _ => fun
  | [d1, d2, d3, d4, d5] => { results := [.lit (.bool false)], args := [d1, d2, d3, d4, d5] }
  | _ => none }
def FnNextIsCurrentAfterAdvanceWrongFalsely : Prop := fnNextIsCurrentAfterAdvanceRow.holds Try.pinned (OpenSpec.ofChange fnNextIsCurrentAfterAdvanceWrong)

/- THE SECOND FORM. 'bulk': how many values and letters a reading holds, each counted each time it is reached (what is shared counts as often as it is met; a slice's spare places count too). A statement '..UptoSaid' is the law's where the arguments, and the package variables that the reading takes, are together of bulk at most 1048576: NARROWER than '..Said'. Prove '..Said' where nothing that the law and all that it calls make is longer than what came in: it says more and counts as full. Else prove '..UptoSaid'. A law counts once. -/
mutual
def uptoBulk {H : Type} : DataW H → Nat
  | .lit (.string bytes) => bytes.length + 1
  | .lit _ => 1
  | .nil => 1
  | .ptr d => uptoBulk d + 1
  | .slice elems spare => uptoBulkAll elems + uptoBulkAll spare + 1
  | .agg parts => uptoBulkAll parts + 1
  | .iface _ d => uptoBulk d + 1
  | .map entries => uptoBulkEntries entries + 1
  | .held _ => 1
def uptoBulkAll {H : Type} : List (DataW H) → Nat
  | [] => 0
  | d :: r => uptoBulk d + uptoBulkAll r
def uptoBulkEntries {H : Type} : List (Lit × DataW H) → Nat
  | [] => 0
  | x :: r => uptoBulkEntry x + uptoBulkEntries r
def uptoBulkEntry {H : Type} : Lit × DataW H → Nat
  | (.string bytes, d) => bytes.length + uptoBulk d + 1
  | (_, d) => uptoBulk d + 1
 end
def uptoSmall : (H : Type) → List (DataW H) → Bool := fun _ ds => decide (uptoBulkAll ds ≤ 1048576)
def OpenSpec.upto (s : _root_.Go.ChangeSpec) : _root_.Go.OpenSpec := { _root_.Go.OpenSpec.ofChange s with cond := some uptoSmall }

/-- 'n011_126.FnHslToRgbZeroSaturationIsExactGray', WHERE WHAT IT READS IS OF BULK AT MOST 1048576: true; the input reads as it did. -/
def fnHslToRgbZeroSaturationIsExactGrayUptoRow : OpenClaim := { program := "ytcaiehnihgcegaa", sum := "36b4cb2e867c6ce7d4ba24eedc63582f72f627314cff104823f6eddee2f3e767", func := "github.com/evanw/esbuild/n011_126.FnHslToRgbZeroSaturationIsExactGray", spec := "fnHslToRgbZeroSaturationIsExactGray", inPlace := ["math.archFloor", "math.Float64bits", "math.Float64frombits", "math.archTrunc"], plainKeys := false, apart := false, narrowed := true }
def FnHslToRgbZeroSaturationIsExactGrayUptoSaid : Prop := fnHslToRgbZeroSaturationIsExactGrayUptoRow.holds Try.pinned (OpenSpec.upto fnHslToRgbZeroSaturationIsExactGraySpec)

/-- 'n011_126.FnHwbToRgbMatchesCssClosedForm', WHERE WHAT IT READS IS OF BULK AT MOST 1048576: true; the input reads as it did. -/
def fnHwbToRgbMatchesCssClosedFormUptoRow : OpenClaim := { program := "ytcaiehnihgcegaa", sum := "36b4cb2e867c6ce7d4ba24eedc63582f72f627314cff104823f6eddee2f3e767", func := "github.com/evanw/esbuild/n011_126.FnHwbToRgbMatchesCssClosedForm", spec := "fnHwbToRgbMatchesCssClosedForm", inPlace := ["math.archFloor", "math.Float64bits", "math.Float64frombits", "math.archTrunc"], plainKeys := false, apart := false, narrowed := true }
def FnHwbToRgbMatchesCssClosedFormUptoSaid : Prop := fnHwbToRgbMatchesCssClosedFormUptoRow.holds Try.pinned (OpenSpec.upto fnHwbToRgbMatchesCssClosedFormSpec)

/-- 'n011_18.FnParseIntegerIdempotent', WHERE WHAT IT READS IS OF BULK AT MOST 1048576: true; the input reads as it did. -/
def fnParseIntegerIdempotentUptoRow : OpenClaim := { program := "ytcaiehnihgcegaa", sum := "36b4cb2e867c6ce7d4ba24eedc63582f72f627314cff104823f6eddee2f3e767", func := "github.com/evanw/esbuild/n011_18.FnParseIntegerIdempotent", spec := "fnParseIntegerIdempotent", plainKeys := false, apart := false, narrowed := true }
def FnParseIntegerIdempotentUptoSaid : Prop := fnParseIntegerIdempotentUptoRow.holds Try.pinned (OpenSpec.upto fnParseIntegerIdempotentSpec)

/-- 'n011_101.FnAdvanceScript', WHERE WHAT IT READS IS OF BULK AT MOST 1048576: true; the input reads as it did. -/
def fnAdvanceScriptUptoRow : OpenClaim := { program := "ytcaiehnihgcegaa", sum := "36b4cb2e867c6ce7d4ba24eedc63582f72f627314cff104823f6eddee2f3e767", func := "github.com/evanw/esbuild/n011_101.FnAdvanceScript", spec := "fnAdvanceScript", plainKeys := false, apart := false, narrowed := true }
def FnAdvanceScriptUptoSaid : Prop := fnAdvanceScriptUptoRow.holds Try.pinned (OpenSpec.upto fnAdvanceScriptSpec)

/-- 'n011_101.FnNextIsCurrentAfterAdvance', WHERE WHAT IT READS IS OF BULK AT MOST 1048576: true; the input reads as it did. -/
def fnNextIsCurrentAfterAdvanceUptoRow : OpenClaim := { program := "ytcaiehnihgcegaa", sum := "36b4cb2e867c6ce7d4ba24eedc63582f72f627314cff104823f6eddee2f3e767", func := "github.com/evanw/esbuild/n011_101.FnNextIsCurrentAfterAdvance", spec := "fnNextIsCurrentAfterAdvance", plainKeys := false, apart := false, narrowed := true }
def FnNextIsCurrentAfterAdvanceUptoSaid : Prop := fnNextIsCurrentAfterAdvanceUptoRow.holds Try.pinned (OpenSpec.upto fnNextIsCurrentAfterAdvanceSpec)

end Rows
end Go.Proofs.Ytcaiehnihgcegaa
