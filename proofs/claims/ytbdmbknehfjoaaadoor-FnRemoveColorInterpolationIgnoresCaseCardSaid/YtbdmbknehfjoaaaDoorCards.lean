/-
  DERIVED. GIVEN WITH THE SEED: THE CARDS: each row of YtbdmbknehfjoaaaDoorRows.lean that lists a variable, with what it lists TIED to the program's text (the seventh form; the later family's looks); each row that meets fmt, with fmt's text TOLD by the authors' own Lean function (tested against real Go, not proved from fmt's source: count such statements apart). THE CARD IS WHAT COUNTS. Prove the row's statement (the work); the ties are given (YtbdmbknehfjoaaaDoorTie.lean); close each card by the builder's one call (the guide's Derived/Test/ToyasCard.lean, 'card_holds'). Laid BY PROGRAM, IN A SANDBOX (cutbox-door.mjs). By AI agents, Wed Nov 11 2026. No macro, syntax, notation, axiom, sorry.
-/
import Derived.Test.YtbdmbknehfjoaaaDoorRows
import GoSem.ClaimSeven
namespace Go.Proofs.YtbdmbknehfjoaaaDoor
namespace Rows

/-- THE TIED CARD OF 'n011_180.FnRemoveColorInterpolationIgnoresCase'. -/
def fnRemoveColorInterpolationIgnoresCaseCard : Claim7 := { stood := { row := fnRemoveColorInterpolationIgnoresCaseRow, standIns := [], harness := (true, "7e9116a7c169bae35e15bb2b9707830569364ea9d9fdcc7d81324b77acc9673c"), looks := false }, kinds := [], alts := [], laidByText := true, laidKinds := [.data, .data, .data, .pinned, .pinned], laidTests := true, laidLooks := .later }
def FnRemoveColorInterpolationIgnoresCaseCardSaid : Prop := Claim7.holds Tryd.pinned (.plain (OpenSpec.ofChange fnRemoveColorInterpolationIgnoresCaseSpec)) fnRemoveColorInterpolationIgnoresCaseCard

/-- THE SECOND FORM's CARD OF 'n011_180.FnRemoveColorInterpolationIgnoresCase'. -/
def fnRemoveColorInterpolationIgnoresCaseUptoCard : Claim7 := { stood := { row := fnRemoveColorInterpolationIgnoresCaseUptoRow, standIns := [], harness := (true, "7e9116a7c169bae35e15bb2b9707830569364ea9d9fdcc7d81324b77acc9673c"), looks := false }, kinds := [], alts := [], laidByText := true, laidKinds := [.data, .data, .data, .pinned, .pinned], laidTests := true, laidLooks := .later }
def FnRemoveColorInterpolationIgnoresCaseUptoCardSaid : Prop := Claim7.holds Tryd.pinned (.plain (OpenSpec.upto fnRemoveColorInterpolationIgnoresCaseSpec)) fnRemoveColorInterpolationIgnoresCaseUptoCard
end Rows
end Go.Proofs.YtbdmbknehfjoaaaDoor
