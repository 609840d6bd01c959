/-
  DERIVED. GIVEN WITH THE SEED: THE CARDS: each row of YtneenpmkacjlmaaDoorRows.lean that lists a variable, with what it lists TIED to the program's text (the seventh form; the later family's looks); each row that meets fmt, with fmt's text TOLD by the authors' own Lean function (tested against real Go, not proved from fmt's source: count such statements apart). THE CARD IS WHAT COUNTS. Prove the row's statement (the work); the ties are given (YtneenpmkacjlmaaDoorTie.lean); close each card by the builder's one call (the guide's Derived/Test/ToyasCard.lean, 'card_holds'). Laid BY PROGRAM, IN A SANDBOX (cutbox-door.mjs). By AI agents, Wed Nov 11 2026. No macro, syntax, notation, axiom, sorry.
-/
import Derived.Test.YtneenpmkacjlmaaDoorRows
import GoSem.ClaimSeven
namespace Go.Proofs.YtneenpmkacjlmaaDoor
namespace Rows

/-- THE TIED CARD OF 'n011_14.FnMangleFontWeightTable'. -/
def fnMangleFontWeightTableCard : Claim7 := { stood := { row := fnMangleFontWeightTableRow, standIns := [], harness := (true, "64717dc074e2a4aea74124556044ba0fc68261027375f6bd128f920c27bc0fc2"), looks := false }, kinds := [], alts := [], laidByText := true, laidKinds := [.data, .pinned, .pinned], laidTests := true, laidLooks := .later }
def FnMangleFontWeightTableCardSaid : Prop := Claim7.holds Tryd.pinned (.plain (OpenSpec.ofChange fnMangleFontWeightTableSpec)) fnMangleFontWeightTableCard

/-- THE SECOND FORM's CARD OF 'n011_14.FnMangleFontWeightTable'. -/
def fnMangleFontWeightTableUptoCard : Claim7 := { stood := { row := fnMangleFontWeightTableUptoRow, standIns := [], harness := (true, "64717dc074e2a4aea74124556044ba0fc68261027375f6bd128f920c27bc0fc2"), looks := false }, kinds := [], alts := [], laidByText := true, laidKinds := [.data, .pinned, .pinned], laidTests := true, laidLooks := .later }
def FnMangleFontWeightTableUptoCardSaid : Prop := Claim7.holds Tryd.pinned (.plain (OpenSpec.upto fnMangleFontWeightTableSpec)) fnMangleFontWeightTableUptoCard
end Rows
end Go.Proofs.YtneenpmkacjlmaaDoor
