/-
  DERIVED. GIVEN WITH THE SEED: THE CARDS: each row of YtnkpcjmmingkkaaDoorRows.lean that lists a variable, with what it lists TIED to the program's text (the seventh form; the later family's looks); each row that meets fmt, with fmt's text TOLD by the authors' own Lean function (tested against real Go, not proved from fmt's source: count such statements apart). THE CARD IS WHAT COUNTS. Prove the row's statement (the work); the ties are given (YtnkpcjmmingkkaaDoorTie.lean); close each card by the builder's one call (the guide's Derived/Test/ToyasCard.lean, 'card_holds'). Laid BY PROGRAM, IN A SANDBOX (cutbox-door.mjs). By AI agents, Wed Nov 11 2026. No macro, syntax, notation, axiom, sorry.
-/
import Derived.Test.YtnkpcjmmingkkaaDoorRows
import GoSem.ClaimSeven
namespace Go.Proofs.YtnkpcjmmingkkaaDoor
namespace Rows

/-- THE TIED CARD OF 'n011_191.FnOklchToOklabRoundTripsThroughOklch'. -/
def fnOklchToOklabRoundTripsThroughOklchCard : Claim7 := { stood := { row := fnOklchToOklabRoundTripsThroughOklchRow, standIns := [], harness := (true, "2e8e51a6d46d22a013d2ed1d037b9ea1d46ab1e0deed5a254f4e95941da3a877"), looks := false }, kinds := [], alts := [], laidByText := true, laidKinds := [.data, .data, .data], laidTests := true, laidLooks := .later }
def FnOklchToOklabRoundTripsThroughOklchCardSaid : Prop := Claim7.holds Tryd.pinned (.plain (OpenSpec.ofChange fnOklchToOklabRoundTripsThroughOklchSpec)) fnOklchToOklabRoundTripsThroughOklchCard

/-- THE SECOND FORM's CARD OF 'n011_191.FnOklchToOklabRoundTripsThroughOklch'. -/
def fnOklchToOklabRoundTripsThroughOklchUptoCard : Claim7 := { stood := { row := fnOklchToOklabRoundTripsThroughOklchUptoRow, standIns := [], harness := (true, "2e8e51a6d46d22a013d2ed1d037b9ea1d46ab1e0deed5a254f4e95941da3a877"), looks := false }, kinds := [], alts := [], laidByText := true, laidKinds := [.data, .data, .data], laidTests := true, laidLooks := .later }
def FnOklchToOklabRoundTripsThroughOklchUptoCardSaid : Prop := Claim7.holds Tryd.pinned (.plain (OpenSpec.upto fnOklchToOklabRoundTripsThroughOklchSpec)) fnOklchToOklabRoundTripsThroughOklchUptoCard
end Rows
end Go.Proofs.YtnkpcjmmingkkaaDoor
