/-
  DERIVED. GIVEN WITH THE SEED: THE CARDS: each row of YtekndhknldjlhaaDoorRows.lean that lists a variable, with what it lists TIED to the program's text (the seventh form; the later family's looks); each row that meets fmt, with fmt's text TOLD by the authors' own Lean function (tested against real Go, not proved from fmt's source: count such statements apart). THE CARD IS WHAT COUNTS. Prove the row's statement (the work); the ties are given (YtekndhknldjlhaaDoorTie.lean); close each card by the builder's one call (the guide's Derived/Test/ToyasCard.lean, 'card_holds'). Laid BY PROGRAM, IN A SANDBOX (cutbox-door.mjs). By AI agents, Wed Nov 11 2026. No macro, syntax, notation, axiom, sorry.
-/
import Derived.Test.YtekndhknldjlhaaDoorRows
import GoSem.ClaimSeven
namespace Go.Proofs.YtekndhknldjlhaaDoor
namespace Rows

/-- THE TIED CARD OF 'n011_166.FnLchToLabLinearInChroma'. -/
def fnLchToLabLinearInChromaCard : Claim7 := { stood := { row := fnLchToLabLinearInChromaRow, standIns := [], harness := (true, "cc51bfb3ce6ff0c5981ba0e963e32c338ca358d094423c366a958a3d0c255275"), looks := false }, kinds := [], alts := [], laidByText := true, laidKinds := [.data, .data, .data], laidTests := true, laidLooks := .later }
def FnLchToLabLinearInChromaCardSaid : Prop := Claim7.holds Tryd.pinned (.plain (OpenSpec.ofChange fnLchToLabLinearInChromaSpec)) fnLchToLabLinearInChromaCard

/-- THE SECOND FORM's CARD OF 'n011_166.FnLchToLabLinearInChroma'. -/
def fnLchToLabLinearInChromaUptoCard : Claim7 := { stood := { row := fnLchToLabLinearInChromaUptoRow, standIns := [], harness := (true, "cc51bfb3ce6ff0c5981ba0e963e32c338ca358d094423c366a958a3d0c255275"), looks := false }, kinds := [], alts := [], laidByText := true, laidKinds := [.data, .data, .data], laidTests := true, laidLooks := .later }
def FnLchToLabLinearInChromaUptoCardSaid : Prop := Claim7.holds Tryd.pinned (.plain (OpenSpec.upto fnLchToLabLinearInChromaSpec)) fnLchToLabLinearInChromaUptoCard
end Rows
end Go.Proofs.YtekndhknldjlhaaDoor
