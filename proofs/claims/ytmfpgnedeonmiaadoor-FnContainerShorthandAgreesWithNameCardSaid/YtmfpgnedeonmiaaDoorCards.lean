/-
  DERIVED. GIVEN WITH THE SEED: THE CARDS: each row of YtmfpgnedeonmiaaDoorRows.lean that lists a variable, with what it lists TIED to the program's text (the seventh form; the later family's looks); each row that meets fmt, with fmt's text TOLD by the authors' own Lean function (tested against real Go, not proved from fmt's source: count such statements apart). THE CARD IS WHAT COUNTS. Prove the row's statement (the work); the ties are given (YtmfpgnedeonmiaaDoorTie.lean); close each card by the builder's one call (the guide's Derived/Test/ToyasCard.lean, 'card_holds'). Laid BY PROGRAM, IN A SANDBOX (cutbox-door.mjs). By AI agents, Wed Nov 11 2026. No macro, syntax, notation, axiom, sorry.
-/
import Derived.Test.YtmfpgnedeonmiaaDoorRows
import GoSem.ClaimSeven
namespace Go.Proofs.YtmfpgnedeonmiaaDoor
namespace Rows

/-- THE TIED CARD OF 'n011_185.FnContainerShorthandExact'. -/
def fnContainerShorthandExactCard : Claim7 := { stood := { row := fnContainerShorthandExactRow, standIns := [], harness := (true, "0946a2ad8cb4c43dce23090bf9e0e49eb5b137bd1e63e0415789a1bf1d8020e3"), looks := false }, kinds := [], alts := [], laidByText := true, laidKinds := [.data, .data, .mapped, .pinned, .pinned], laidTests := true, laidLooks := .later }
def FnContainerShorthandExactCardSaid : Prop := Claim7.holds Tryd.pinned (.plain (OpenSpec.ofChange fnContainerShorthandExactSpec)) fnContainerShorthandExactCard

/-- THE TIED CARD OF 'n011_185.FnContainerShorthandAgreesWithName'. -/
def fnContainerShorthandAgreesWithNameCard : Claim7 := { stood := { row := fnContainerShorthandAgreesWithNameRow, standIns := [], harness := (true, "0946a2ad8cb4c43dce23090bf9e0e49eb5b137bd1e63e0415789a1bf1d8020e3"), looks := false }, kinds := [], alts := [], laidByText := true, laidKinds := [.data, .data, .mapped, .pinned, .pinned], laidTests := true, laidLooks := .later }
def FnContainerShorthandAgreesWithNameCardSaid : Prop := Claim7.holds Tryd.pinned (.plain (OpenSpec.ofChange fnContainerShorthandAgreesWithNameSpec)) fnContainerShorthandAgreesWithNameCard

/-- THE SECOND FORM's CARD OF 'n011_185.FnContainerShorthandExact'. -/
def fnContainerShorthandExactUptoCard : Claim7 := { stood := { row := fnContainerShorthandExactUptoRow, standIns := [], harness := (true, "0946a2ad8cb4c43dce23090bf9e0e49eb5b137bd1e63e0415789a1bf1d8020e3"), looks := false }, kinds := [], alts := [], laidByText := true, laidKinds := [.data, .data, .mapped, .pinned, .pinned], laidTests := true, laidLooks := .later }
def FnContainerShorthandExactUptoCardSaid : Prop := Claim7.holds Tryd.pinned (.plain (OpenSpec.upto fnContainerShorthandExactSpec)) fnContainerShorthandExactUptoCard

/-- THE SECOND FORM's CARD OF 'n011_185.FnContainerShorthandAgreesWithName'. -/
def fnContainerShorthandAgreesWithNameUptoCard : Claim7 := { stood := { row := fnContainerShorthandAgreesWithNameUptoRow, standIns := [], harness := (true, "0946a2ad8cb4c43dce23090bf9e0e49eb5b137bd1e63e0415789a1bf1d8020e3"), looks := false }, kinds := [], alts := [], laidByText := true, laidKinds := [.data, .data, .mapped, .pinned, .pinned], laidTests := true, laidLooks := .later }
def FnContainerShorthandAgreesWithNameUptoCardSaid : Prop := Claim7.holds Tryd.pinned (.plain (OpenSpec.upto fnContainerShorthandAgreesWithNameSpec)) fnContainerShorthandAgreesWithNameUptoCard
end Rows
end Go.Proofs.YtmfpgnedeonmiaaDoor
