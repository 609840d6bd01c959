/-
  DERIVED. GIVEN WITH THE SEED: THE CARDS: each row of YtnolnlekdlfeaaaDoorRows.lean that lists a variable, with what it lists TIED to the program's text (the seventh form; the later family's looks); each row that meets fmt, with fmt's text TOLD by the authors' own Lean function (tested against real Go, not proved from fmt's source: count such statements apart). THE CARD IS WHAT COUNTS. Prove the row's statement (the work); the ties are given (YtnolnlekdlfeaaaDoorTie.lean); close each card by the builder's one call (the guide's Derived/Test/ToyasCard.lean, 'card_holds'). Laid BY PROGRAM, IN A SANDBOX (cutbox-door.mjs). By AI agents, Wed Nov 11 2026. No macro, syntax, notation, axiom, sorry.
-/
import Derived.Test.YtnolnlekdlfeaaaDoorRows
import GoSem.ClaimSeven
namespace Go.Proofs.YtnolnlekdlfeaaaDoor
namespace Rows

/-- THE TIED CARD OF 'n011_161.FnMangleCornersCaseTable'. -/
def fnMangleCornersCaseTableCard : Claim7 := { stood := { row := fnMangleCornersCaseTableRow, standIns := [], harness := (true, "0578c68a37cdefd32d3adfc15036bfb9a859ecc9fe0b826342c80a0a74907d0e"), looks := true }, kinds := [], alts := [], laidByText := true, laidKinds := [.data, .pinned, .pinned], laidTests := true, laidLooks := .later }
def FnMangleCornersCaseTableCardSaid : Prop := Claim7.holds Tryd.pinned (.plain (OpenSpec.ofChange fnMangleCornersCaseTableSpec)) fnMangleCornersCaseTableCard

/-- THE TIED CARD OF 'n011_161.FnMangleCornerForgetsOnRefusal'. -/
def fnMangleCornerForgetsOnRefusalCard : Claim7 := { stood := { row := fnMangleCornerForgetsOnRefusalRow, standIns := [], harness := (true, "0578c68a37cdefd32d3adfc15036bfb9a859ecc9fe0b826342c80a0a74907d0e"), looks := true }, kinds := [], alts := [], laidByText := true, laidKinds := [.data, .pinned, .pinned], laidTests := true, laidLooks := .later }
def FnMangleCornerForgetsOnRefusalCardSaid : Prop := Claim7.holds Tryd.pinned (.plain (OpenSpec.ofChange fnMangleCornerForgetsOnRefusalSpec)) fnMangleCornerForgetsOnRefusalCard

/-- THE SECOND FORM's CARD OF 'n011_161.FnMangleCornersCaseTable'. -/
def fnMangleCornersCaseTableUptoCard : Claim7 := { stood := { row := fnMangleCornersCaseTableUptoRow, standIns := [], harness := (true, "0578c68a37cdefd32d3adfc15036bfb9a859ecc9fe0b826342c80a0a74907d0e"), looks := true }, kinds := [], alts := [], laidByText := true, laidKinds := [.data, .pinned, .pinned], laidTests := true, laidLooks := .later }
def FnMangleCornersCaseTableUptoCardSaid : Prop := Claim7.holds Tryd.pinned (.plain (OpenSpec.upto fnMangleCornersCaseTableSpec)) fnMangleCornersCaseTableUptoCard

/-- THE SECOND FORM's CARD OF 'n011_161.FnMangleCornerForgetsOnRefusal'. -/
def fnMangleCornerForgetsOnRefusalUptoCard : Claim7 := { stood := { row := fnMangleCornerForgetsOnRefusalUptoRow, standIns := [], harness := (true, "0578c68a37cdefd32d3adfc15036bfb9a859ecc9fe0b826342c80a0a74907d0e"), looks := true }, kinds := [], alts := [], laidByText := true, laidKinds := [.data, .pinned, .pinned], laidTests := true, laidLooks := .later }
def FnMangleCornerForgetsOnRefusalUptoCardSaid : Prop := Claim7.holds Tryd.pinned (.plain (OpenSpec.upto fnMangleCornerForgetsOnRefusalSpec)) fnMangleCornerForgetsOnRefusalUptoCard
end Rows
end Go.Proofs.YtnolnlekdlfeaaaDoor
