/-
  DERIVED. GIVEN WITH THE SEED: THE CARDS: each row of YtpkhfknjajehnaaDoorRows.lean that lists a variable, with what it lists TIED to the program's text (the seventh form; the later family's looks); each row that meets fmt, with fmt's text TOLD by the authors' own Lean function (tested against real Go, not proved from fmt's source: count such statements apart). THE CARD IS WHAT COUNTS. Prove the row's statement (the work); the ties are given (YtpkhfknjajehnaaDoorTie.lean); close each card by the builder's one call (the guide's Derived/Test/ToyasCard.lean, 'card_holds'). Laid BY PROGRAM, IN A SANDBOX (cutbox-door.mjs). By AI agents, Wed Nov 11 2026. No macro, syntax, notation, axiom, sorry.
-/
import Derived.Test.YtpkhfknjajehnaaDoorRows
import GoSem.ClaimSeven
namespace Go.Proofs.YtpkhfknjajehnaaDoor
namespace Rows

/-- THE TIED CARD OF 'n011_191.FnOklchToOklabOddAndHomogeneousInChroma'. -/
def fnOklchToOklabOddAndHomogeneousInChromaCard : Claim7 := { stood := { row := fnOklchToOklabOddAndHomogeneousInChromaRow, standIns := [], harness := (true, "3c65160c71f4c16ad15fc3fcb6e50d2bda30845682f38982541a80de0790e642"), looks := false }, kinds := [], alts := [], laidByText := true, laidKinds := [.data, .data, .data], laidTests := true, laidLooks := .later }
def FnOklchToOklabOddAndHomogeneousInChromaCardSaid : Prop := Claim7.holds Tryd.pinned (.plain (OpenSpec.ofChange fnOklchToOklabOddAndHomogeneousInChromaSpec)) fnOklchToOklabOddAndHomogeneousInChromaCard

/-- THE SECOND FORM's CARD OF 'n011_191.FnOklchToOklabOddAndHomogeneousInChroma'. -/
def fnOklchToOklabOddAndHomogeneousInChromaUptoCard : Claim7 := { stood := { row := fnOklchToOklabOddAndHomogeneousInChromaUptoRow, standIns := [], harness := (true, "3c65160c71f4c16ad15fc3fcb6e50d2bda30845682f38982541a80de0790e642"), looks := false }, kinds := [], alts := [], laidByText := true, laidKinds := [.data, .data, .data], laidTests := true, laidLooks := .later }
def FnOklchToOklabOddAndHomogeneousInChromaUptoCardSaid : Prop := Claim7.holds Tryd.pinned (.plain (OpenSpec.upto fnOklchToOklabOddAndHomogeneousInChromaSpec)) fnOklchToOklabOddAndHomogeneousInChromaUptoCard
end Rows
end Go.Proofs.YtpkhfknjajehnaaDoor
