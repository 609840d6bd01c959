/-
  DERIVED. GIVEN WITH THE SEED: THE CARDS: each row of YtdndceaedfiedaaDoorRows.lean that lists a variable, with what it lists TIED to the program's text (the seventh form; the later family's looks); each row that meets fmt, with fmt's text TOLD by the authors' own Lean function (tested against real Go, not proved from fmt's source: count such statements apart). THE CARD IS WHAT COUNTS. Prove the row's statement (the work); the ties are given (YtdndceaedfiedaaDoorTie.lean); close each card by the builder's one call (the guide's Derived/Test/ToyasCard.lean, 'card_holds'). Laid BY PROGRAM, IN A SANDBOX (cutbox-door.mjs). By AI agents, Wed Nov 11 2026. No macro, syntax, notation, axiom, sorry.
-/
import Derived.Test.YtdndceaedfiedaaDoorRows
import GoSem.ClaimSeven
namespace Go.Proofs.YtdndceaedfiedaaDoor
namespace Rows

/-- THE TIED CARD OF 'n011_166.FnLabToLchInvertedByLchToLab'. -/
def fnLabToLchInvertedByLchToLabCard : Claim7 := { stood := { row := fnLabToLchInvertedByLchToLabRow, standIns := [], harness := (true, "603b00bfd2c1c4d543ade79cea4af929faa331c36e569b5e0add5490c7c1d344"), looks := false }, kinds := [], alts := [], laidByText := true, laidKinds := [.data, .data, .data], laidTests := true, laidLooks := .later }
def FnLabToLchInvertedByLchToLabCardSaid : Prop := Claim7.holds Tryd.pinned (.plain (OpenSpec.ofChange fnLabToLchInvertedByLchToLabSpec)) fnLabToLchInvertedByLchToLabCard

/-- THE SECOND FORM's CARD OF 'n011_166.FnLabToLchInvertedByLchToLab'. -/
def fnLabToLchInvertedByLchToLabUptoCard : Claim7 := { stood := { row := fnLabToLchInvertedByLchToLabUptoRow, standIns := [], harness := (true, "603b00bfd2c1c4d543ade79cea4af929faa331c36e569b5e0add5490c7c1d344"), looks := false }, kinds := [], alts := [], laidByText := true, laidKinds := [.data, .data, .data], laidTests := true, laidLooks := .later }
def FnLabToLchInvertedByLchToLabUptoCardSaid : Prop := Claim7.holds Tryd.pinned (.plain (OpenSpec.upto fnLabToLchInvertedByLchToLabSpec)) fnLabToLchInvertedByLchToLabUptoCard
end Rows
end Go.Proofs.YtdndceaedfiedaaDoor
