/-
  No cell of these rows narrows 'for every input' (looked for: loops, veiled, ifaces, maps, wideKeys, modest, calm, conditions, laid).
  DERIVED. THE GIVEN ROWS OF THIS SEAT. 2 by the template 'for every input the law returns true; each argument reads behind the call as it read before'; 0 by the template 'total and deterministic' (their statements: YtajkdjheoefbcaaTotals.lean).
  GIVEN WITH THE SEED: the statements are not yours to turn. If you find one false, say at which input.
  Laid BY PROGRAM, IN A SANDBOX (cutbox-rows.mjs): the forced cells as the released guide's own fill.sh prints them over the translation 4848be073f718dac… (all of the seat's roots in one cut). By AI agents, Wed Nov 11 2026. No macro, syntax, notation, axiom, sorry.
-/
import Derived.Test.YtajkdjheoefbcaaChecked
import GoSem.Claim
import GoSem.ClaimJoined
import GoSem.ClaimMapViews
import Derived.JoinedTies
import Derived.KernelRfl
namespace Go.Proofs.Ytajkdjheoefbcaa
/- THE CELL 'sum', in the pinned program and in every row, IS THE sha256 OF THE DUMP (.gsa) THAT YtajkdjheoefbcaaProg.lean LOADS. Nothing in Lean hashes anything: it is a label: what it is worth is what the hold of that sum in a sandbox is worth. -/
noncomputable def Try.pinned : Pinned := { name := "ytajkdjheoefbcaa", sum := "4848be073f718dacf88e3cf0f9f1d55e29af1c74cf07cc4a492a4d1351fe21d4", checked := Try.checked }
namespace Rows
def none {H : Type} : Left H := { results := [], args := [] }

/-- 'n011_198.FnScanForEndOfRuleModel': WHATEVER THE INPUT: true; the input reads as it did. -/
def fnScanForEndOfRuleModelSpec : ChangeSpec := { name := "fnScanForEndOfRuleModel", fn := fun _ => fun
  | [d1, d2] => { results := [.lit (.bool true)], args := [d1, d2] }
  | _ => none }
def fnScanForEndOfRuleModelRow : OpenClaim := { program := "ytajkdjheoefbcaa", sum := "4848be073f718dacf88e3cf0f9f1d55e29af1c74cf07cc4a492a4d1351fe21d4", func := "github.com/evanw/esbuild/n011_198.FnScanForEndOfRuleModel", spec := "fnScanForEndOfRuleModel", recurses := true, plainKeys := false, apart := false }
def FnScanForEndOfRuleModelSaid : Prop := fnScanForEndOfRuleModelRow.holds Try.pinned (OpenSpec.ofChange fnScanForEndOfRuleModelSpec)

/-- ITS FALSE NEIGHBOUR: 'it returns false'. Refute it at one input. -/
def fnScanForEndOfRuleModelWrong : ChangeSpec := { name := "fnScanForEndOfRuleModel", fn := fun _ => fun
  | [d1, d2] => { results := [.lit (.bool false)], args := [d1, d2] }
  | _ => none }
def FnScanForEndOfRuleModelWrongFalsely : Prop := fnScanForEndOfRuleModelRow.holds Try.pinned (OpenSpec.ofChange fnScanForEndOfRuleModelWrong)

/-- 'n011_198.FnScanForEndOfRuleShift': WHATEVER THE INPUT: true; the input reads as it did. -/
def fnScanForEndOfRuleShiftSpec : ChangeSpec := { name := "fnScanForEndOfRuleShift", fn := fun _ => fun
  | [d1, d2, d3] => { results := [.lit (.bool true)], args := [d1, d2, d3] }
  | _ => none }
def fnScanForEndOfRuleShiftRow : OpenClaim := { program := "ytajkdjheoefbcaa", sum := "4848be073f718dacf88e3cf0f9f1d55e29af1c74cf07cc4a492a4d1351fe21d4", func := "github.com/evanw/esbuild/n011_198.FnScanForEndOfRuleShift", spec := "fnScanForEndOfRuleShift", plainKeys := false, apart := false }
def FnScanForEndOfRuleShiftSaid : Prop := fnScanForEndOfRuleShiftRow.holds Try.pinned (OpenSpec.ofChange fnScanForEndOfRuleShiftSpec)

/-- ITS FALSE NEIGHBOUR: 'it returns false'. Refute it at one input. -/
def fnScanForEndOfRuleShiftWrong : ChangeSpec := { name := "fnScanForEndOfRuleShift", fn := fun _ => fun
  | [d1, d2, d3] => { results := [.lit (.bool false)], args := [d1, d2, d3] }
  | _ => none }
def FnScanForEndOfRuleShiftWrongFalsely : Prop := fnScanForEndOfRuleShiftRow.holds Try.pinned (OpenSpec.ofChange fnScanForEndOfRuleShiftWrong)

/- THE SECOND FORM. 'bulk': how many values and letters a reading holds, each counted each time it is reached (what is shared counts as often as it is met; a slice's spare places count too). A statement '..UptoSaid' is the law's where the arguments, and the package variables that the reading takes, are together of bulk at most 1048576: NARROWER than '..Said'. Prove '..Said' where nothing that the law and all that it calls make is longer than what came in: it says more and counts as full. Else prove '..UptoSaid'. A law counts once. -/
mutual
def uptoBulk {H : Type} : DataW H → Nat
  | .lit (.string bytes) => bytes.length + 1
  | .lit _ => 1
  | .nil => 1
  | .ptr d => uptoBulk d + 1
  | .slice elems spare => uptoBulkAll elems + uptoBulkAll spare + 1
  | .agg parts => uptoBulkAll parts + 1
  | .iface _ d => uptoBulk d + 1
  | .map entries => uptoBulkEntries entries + 1
  | .held _ => 1
def uptoBulkAll {H : Type} : List (DataW H) → Nat
  | [] => 0
  | d :: r => uptoBulk d + uptoBulkAll r
def uptoBulkEntries {H : Type} : List (Lit × DataW H) → Nat
  | [] => 0
  | x :: r => uptoBulkEntry x + uptoBulkEntries r
def uptoBulkEntry {H : Type} : Lit × DataW H → Nat
  | (.string bytes, d) => bytes.length + uptoBulk d + 1
  | (_, d) => uptoBulk d + 1
 end
def uptoSmall : (H : Type) → List (DataW H) → Bool := fun _ ds => decide (uptoBulkAll ds ≤ 1048576)
def OpenSpec.upto (s : _root_.Go.ChangeSpec) : _root_.Go.OpenSpec := { _root_.Go.OpenSpec.ofChange s with cond := some uptoSmall }

/-- 'n011_198.FnScanForEndOfRuleModel', WHERE WHAT IT READS IS OF BULK AT MOST 1048576: true; the input reads as it did. -/
def fnScanForEndOfRuleModelUptoRow : OpenClaim := { program := "ytajkdjheoefbcaa", sum := "4848be073f718dacf88e3cf0f9f1d55e29af1c74cf07cc4a492a4d1351fe21d4", func := "github.com/evanw/esbuild/n011_198.FnScanForEndOfRuleModel", spec := "fnScanForEndOfRuleModel", recurses := true, plainKeys := false, apart := false, narrowed := true }
def FnScanForEndOfRuleModelUptoSaid : Prop := fnScanForEndOfRuleModelUptoRow.holds Try.pinned (OpenSpec.upto fnScanForEndOfRuleModelSpec)

/-- 'n011_198.FnScanForEndOfRuleShift', WHERE WHAT IT READS IS OF BULK AT MOST 1048576: true; the input reads as it did. -/
def fnScanForEndOfRuleShiftUptoRow : OpenClaim := { program := "ytajkdjheoefbcaa", sum := "4848be073f718dacf88e3cf0f9f1d55e29af1c74cf07cc4a492a4d1351fe21d4", func := "github.com/evanw/esbuild/n011_198.FnScanForEndOfRuleShift", spec := "fnScanForEndOfRuleShift", plainKeys := false, apart := false, narrowed := true }
def FnScanForEndOfRuleShiftUptoSaid : Prop := fnScanForEndOfRuleShiftUptoRow.holds Try.pinned (OpenSpec.upto fnScanForEndOfRuleShiftSpec)

end Rows
end Go.Proofs.Ytajkdjheoefbcaa
