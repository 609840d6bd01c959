/-
  NARROWER THAN 'FOR EVERY INPUT', by the rows' own cells (each row's printed sentence says how): FnMangleCornersCaseTable: laid · FnMangleCornerForgetsOnRefusal: laid.
  DERIVED. THE GIVEN ROWS OF THIS SEAT. 2 by the template 'for every input the law returns true; each argument reads behind the call as it read before'; 0 by the template 'total and deterministic' (their statements: YtnolnlekdlfeaaaDoorTotals.lean).
  GIVEN WITH THE SEED: the statements are not yours to turn. If you find one false, say at which input.
  Laid BY PROGRAM, IN A SANDBOX (cutbox-rows.mjs): the forced cells as the released guide's own fill.sh prints them over the translation 6792037fe8b1d54c… (all of the seat's roots in one cut). By AI agents, Wed Nov 11 2026. No macro, syntax, notation, axiom, sorry.
-/
import Derived.Test.YtnolnlekdlfeaaaDoorChecked
import GoSem.PinnedTables
import GoSem.Claim
import GoSem.ClaimJoined
import GoSem.ClaimMapViews
import Derived.JoinedTies
import Derived.KernelRfl
namespace Go.Proofs.YtnolnlekdlfeaaaDoor
/- THE CELL 'sum', in the pinned program and in every row, IS THE sha256 OF THE DUMP (.gsa) THAT YtnolnlekdlfeaaaDoorProg.lean LOADS. Nothing in Lean hashes anything: it is a label: what it is worth is what the hold of that sum in a sandbox is worth. -/
noncomputable def Tryd.pinned : Pinned := { name := "ytnolnlekdlfeaaadoor", sum := "6792037fe8b1d54c249a9048a8f390896d5a3d11c9363321ec7bced79bb20c4b", checked := Tryd.checked }
namespace Rows
def none {H : Type} : Left H := { results := [], args := [] }

/- WHAT THE LISTED PACKAGE-LEVEL VARIABLES READ AS WHEN THE CALL BEGINS. Each datum BY PROGRAM (the guide's laid-datum.mjs) off the statement by which the dump's own 'gosem.cut.vars' lays the variable. In a bare row this is a premise. The card (YtnolnlekdlfeaaaDoorCards.lean) ties it to the program's text. -/
def laid_unicode_utf8_acceptRanges {H : Type} : DataW H := .agg [.agg [.lit (.int .u8 128), .lit (.int .u8 191)], .agg [.lit (.int .u8 160), .lit (.int .u8 191)], .agg [.lit (.int .u8 128), .lit (.int .u8 159)], .agg [.lit (.int .u8 144), .lit (.int .u8 191)], .agg [.lit (.int .u8 128), .lit (.int .u8 143)], .agg [.lit (.int .u8 0), .lit (.int .u8 0)], .agg [.lit (.int .u8 0), .lit (.int .u8 0)], .agg [.lit (.int .u8 0), .lit (.int .u8 0)], .agg [.lit (.int .u8 0), .lit (.int .u8 0)], .agg [.lit (.int .u8 0), .lit (.int .u8 0)], .agg [.lit (.int .u8 0), .lit (.int .u8 0)], .agg [.lit (.int .u8 0), .lit (.int .u8 0)], .agg [.lit (.int .u8 0), .lit (.int .u8 0)], .agg [.lit (.int .u8 0), .lit (.int .u8 0)], .agg [.lit (.int .u8 0), .lit (.int .u8 0)], .agg [.lit (.int .u8 0), .lit (.int .u8 0)]]
/-- One of Go's own tables, pinned by name: the form's constant. -/
def laid_unicode_CaseRanges : DataW Unit := Go.Pinned.caseRanges
/-- One of Go's own tables, pinned by name: the form's constant. -/
def laid_unicode_utf8_first : DataW Unit := Go.Pinned.utf8First

/-- 'n011_161.FnMangleCornersCaseTable': WHATEVER THE INPUT: true; the input reads as it did. -/
def fnMangleCornersCaseTableSpec : ChangeSpec := { name := "fnMangleCornersCaseTable", fn := fun _ => fun
  | [d1, d2, d3, d4] => { results := [.lit (.bool true)], args := [d1, d2, d3, d4] }
  | _ => none }
def fnMangleCornersCaseTableRow : OpenClaim := { program := "ytnolnlekdlfeaaadoor", sum := "6792037fe8b1d54c249a9048a8f390896d5a3d11c9363321ec7bced79bb20c4b", func := "github.com/evanw/esbuild/n011_161.FnMangleCornersCaseTable", spec := "fnMangleCornersCaseTable", inPlace := ["internal/abi.NoEscape", "internal/bytealg.MakeNoZero"], unfollowed := true, recurses := true, named := ["unicode/utf8.first", "unicode/utf8.acceptRanges", "unicode.CaseRanges"], apart := false, laid := [("unicode/utf8.acceptRanges", laid_unicode_utf8_acceptRanges), ("unicode.CaseRanges", laid_unicode_CaseRanges), ("unicode/utf8.first", laid_unicode_utf8_first)] }
def FnMangleCornersCaseTableSaid : Prop := fnMangleCornersCaseTableRow.holds Tryd.pinned (OpenSpec.ofChange fnMangleCornersCaseTableSpec)

/-- ITS FALSE NEIGHBOUR: 'it returns false'. Refute it at one input. -/
def fnMangleCornersCaseTableWrong : ChangeSpec := { name := "fnMangleCornersCaseTable", fn := fun _ => fun
  | [d1, d2, d3, d4] => { results := [.lit (.bool false)], args := [d1, d2, d3, d4] }
  | _ => none }
def FnMangleCornersCaseTableWrongFalsely : Prop := fnMangleCornersCaseTableRow.holds Tryd.pinned (OpenSpec.ofChange fnMangleCornersCaseTableWrong)

/-- 'n011_161.FnMangleCornerForgetsOnRefusal': WHATEVER THE INPUT: true; the input reads as it did. -/
def fnMangleCornerForgetsOnRefusalSpec : ChangeSpec := { name := "fnMangleCornerForgetsOnRefusal", fn := fun _ => fun
  | [d1, d2, d3, d4, d5] => { results := [.lit (.bool true)], args := [d1, d2, d3, d4, d5] }
  | _ => none }
def fnMangleCornerForgetsOnRefusalRow : OpenClaim := { program := "ytnolnlekdlfeaaadoor", sum := "6792037fe8b1d54c249a9048a8f390896d5a3d11c9363321ec7bced79bb20c4b", func := "github.com/evanw/esbuild/n011_161.FnMangleCornerForgetsOnRefusal", spec := "fnMangleCornerForgetsOnRefusal", inPlace := ["internal/abi.NoEscape", "internal/bytealg.MakeNoZero"], unfollowed := true, recurses := true, named := ["unicode/utf8.first", "unicode/utf8.acceptRanges", "unicode.CaseRanges"], apart := false, laid := [("unicode/utf8.acceptRanges", laid_unicode_utf8_acceptRanges), ("unicode.CaseRanges", laid_unicode_CaseRanges), ("unicode/utf8.first", laid_unicode_utf8_first)] }
def FnMangleCornerForgetsOnRefusalSaid : Prop := fnMangleCornerForgetsOnRefusalRow.holds Tryd.pinned (OpenSpec.ofChange fnMangleCornerForgetsOnRefusalSpec)

/-- ITS FALSE NEIGHBOUR: 'it returns false'. Refute it at one input. -/
def fnMangleCornerForgetsOnRefusalWrong : ChangeSpec := { name := "fnMangleCornerForgetsOnRefusal", fn := fun _ => fun
  | [d1, d2, d3, d4, d5] => { results := [.lit (.bool false)], args := [d1, d2, d3, d4, d5] }
  | _ => none }
def FnMangleCornerForgetsOnRefusalWrongFalsely : Prop := fnMangleCornerForgetsOnRefusalRow.holds Tryd.pinned (OpenSpec.ofChange fnMangleCornerForgetsOnRefusalWrong)

/- THE SECOND FORM. 'bulk': how many values and letters a reading holds, each counted each time it is reached (what is shared counts as often as it is met; a slice's spare places count too). A statement '..UptoSaid' is the law's where the arguments, and the package variables that the reading takes, are together of bulk at most 1048576: NARROWER than '..Said'. Prove '..Said' where nothing that the law and all that it calls make is longer than what came in: it says more and counts as full. Else prove '..UptoSaid'. A law counts once. -/
mutual
def uptoBulk {H : Type} : DataW H → Nat
  | .lit (.string bytes) => bytes.length + 1
  | .lit _ => 1
  | .nil => 1
  | .ptr d => uptoBulk d + 1
  | .slice elems spare => uptoBulkAll elems + uptoBulkAll spare + 1
  | .agg parts => uptoBulkAll parts + 1
  | .iface _ d => uptoBulk d + 1
  | .map entries => uptoBulkEntries entries + 1
  | .held _ => 1
def uptoBulkAll {H : Type} : List (DataW H) → Nat
  | [] => 0
  | d :: r => uptoBulk d + uptoBulkAll r
def uptoBulkEntries {H : Type} : List (Lit × DataW H) → Nat
  | [] => 0
  | x :: r => uptoBulkEntry x + uptoBulkEntries r
def uptoBulkEntry {H : Type} : Lit × DataW H → Nat
  | (.string bytes, d) => bytes.length + uptoBulk d + 1
  | (_, d) => uptoBulk d + 1
 end
def uptoSmall : (H : Type) → List (DataW H) → Bool := fun _ ds => decide (uptoBulkAll ds ≤ 1048576)
def OpenSpec.upto (s : _root_.Go.ChangeSpec) : _root_.Go.OpenSpec := { _root_.Go.OpenSpec.ofChange s with cond := some uptoSmall }

/-- 'n011_161.FnMangleCornersCaseTable', WHERE WHAT IT READS IS OF BULK AT MOST 1048576: true; the input reads as it did. -/
def fnMangleCornersCaseTableUptoRow : OpenClaim := { program := "ytnolnlekdlfeaaadoor", sum := "6792037fe8b1d54c249a9048a8f390896d5a3d11c9363321ec7bced79bb20c4b", func := "github.com/evanw/esbuild/n011_161.FnMangleCornersCaseTable", spec := "fnMangleCornersCaseTable", inPlace := ["internal/abi.NoEscape", "internal/bytealg.MakeNoZero"], unfollowed := true, recurses := true, named := ["unicode/utf8.first", "unicode/utf8.acceptRanges", "unicode.CaseRanges"], apart := false, laid := [("unicode/utf8.acceptRanges", laid_unicode_utf8_acceptRanges), ("unicode.CaseRanges", laid_unicode_CaseRanges), ("unicode/utf8.first", laid_unicode_utf8_first)], narrowed := true }
def FnMangleCornersCaseTableUptoSaid : Prop := fnMangleCornersCaseTableUptoRow.holds Tryd.pinned (OpenSpec.upto fnMangleCornersCaseTableSpec)

/-- 'n011_161.FnMangleCornerForgetsOnRefusal', WHERE WHAT IT READS IS OF BULK AT MOST 1048576: true; the input reads as it did. -/
def fnMangleCornerForgetsOnRefusalUptoRow : OpenClaim := { program := "ytnolnlekdlfeaaadoor", sum := "6792037fe8b1d54c249a9048a8f390896d5a3d11c9363321ec7bced79bb20c4b", func := "github.com/evanw/esbuild/n011_161.FnMangleCornerForgetsOnRefusal", spec := "fnMangleCornerForgetsOnRefusal", inPlace := ["internal/abi.NoEscape", "internal/bytealg.MakeNoZero"], unfollowed := true, recurses := true, named := ["unicode/utf8.first", "unicode/utf8.acceptRanges", "unicode.CaseRanges"], apart := false, laid := [("unicode/utf8.acceptRanges", laid_unicode_utf8_acceptRanges), ("unicode.CaseRanges", laid_unicode_CaseRanges), ("unicode/utf8.first", laid_unicode_utf8_first)], narrowed := true }
def FnMangleCornerForgetsOnRefusalUptoSaid : Prop := fnMangleCornerForgetsOnRefusalUptoRow.holds Tryd.pinned (OpenSpec.upto fnMangleCornerForgetsOnRefusalSpec)

end Rows
end Go.Proofs.YtnolnlekdlfeaaaDoor
