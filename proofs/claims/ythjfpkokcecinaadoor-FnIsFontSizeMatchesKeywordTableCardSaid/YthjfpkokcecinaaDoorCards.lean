/-
  DERIVED. GIVEN WITH THE SEED: THE CARDS: each row of YthjfpkokcecinaaDoorRows.lean that lists a variable, with what it lists TIED to the program's text (the seventh form; the later family's looks); each row that meets fmt, with fmt's text TOLD by the authors' own Lean function (tested against real Go, not proved from fmt's source: count such statements apart). THE CARD IS WHAT COUNTS. Prove the row's statement (the work); the ties are given (YthjfpkokcecinaaDoorTie.lean); close each card by the builder's one call (the guide's Derived/Test/ToyasCard.lean, 'card_holds'). Laid BY PROGRAM, IN A SANDBOX (cutbox-door.mjs). By AI agents, Wed Nov 11 2026. No macro, syntax, notation, axiom, sorry.
-/
import Derived.Test.YthjfpkokcecinaaDoorRows
import GoSem.ClaimSeven
namespace Go.Proofs.YthjfpkokcecinaaDoor
namespace Rows

/-- THE TIED CARD OF 'n011_200.FnIsFontSizeMatchesKeywordTable'. -/
def fnIsFontSizeMatchesKeywordTableCard : Claim7 := { stood := { row := fnIsFontSizeMatchesKeywordTableRow, standIns := [], harness := (true, "9b4cedacc337481514011c321279d5d256934aae1e1e020a293267258144585a"), looks := false }, kinds := [], alts := [], laidByText := true, laidKinds := [.data, .mapped, .pinned, .pinned], laidTests := true, laidLooks := .later }
def FnIsFontSizeMatchesKeywordTableCardSaid : Prop := Claim7.holds Tryd.pinned (.plain (OpenSpec.ofChange fnIsFontSizeMatchesKeywordTableSpec)) fnIsFontSizeMatchesKeywordTableCard

/-- THE SECOND FORM's CARD OF 'n011_200.FnIsFontSizeMatchesKeywordTable'. -/
def fnIsFontSizeMatchesKeywordTableUptoCard : Claim7 := { stood := { row := fnIsFontSizeMatchesKeywordTableUptoRow, standIns := [], harness := (true, "9b4cedacc337481514011c321279d5d256934aae1e1e020a293267258144585a"), looks := false }, kinds := [], alts := [], laidByText := true, laidKinds := [.data, .mapped, .pinned, .pinned], laidTests := true, laidLooks := .later }
def FnIsFontSizeMatchesKeywordTableUptoCardSaid : Prop := Claim7.holds Tryd.pinned (.plain (OpenSpec.upto fnIsFontSizeMatchesKeywordTableSpec)) fnIsFontSizeMatchesKeywordTableUptoCard
end Rows
end Go.Proofs.YthjfpkokcecinaaDoor
