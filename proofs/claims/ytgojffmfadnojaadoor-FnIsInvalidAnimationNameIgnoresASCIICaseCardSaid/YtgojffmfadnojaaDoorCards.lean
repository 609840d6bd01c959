/-
  DERIVED. GIVEN WITH THE SEED: THE CARDS: each row of YtgojffmfadnojaaDoorRows.lean that lists a variable, with what it lists TIED to the program's text (the seventh form; the later family's looks); each row that meets fmt, with fmt's text TOLD by the authors' own Lean function (tested against real Go, not proved from fmt's source: count such statements apart). THE CARD IS WHAT COUNTS. Prove the row's statement (the work); the ties are given (YtgojffmfadnojaaDoorTie.lean); close each card by the builder's one call (the guide's Derived/Test/ToyasCard.lean, 'card_holds'). Laid BY PROGRAM, IN A SANDBOX (cutbox-door.mjs). By AI agents, Wed Nov 11 2026. No macro, syntax, notation, axiom, sorry.
-/
import Derived.Test.YtgojffmfadnojaaDoorRows
import GoSem.ClaimSeven
namespace Go.Proofs.YtgojffmfadnojaaDoor
namespace Rows

/-- THE TIED CARD OF 'n011_154.FnIsInvalidAnimationNameExact'. -/
def fnIsInvalidAnimationNameExactCard : Claim7 := { stood := { row := fnIsInvalidAnimationNameExactRow, standIns := [], harness := (true, "f51cb7bb92d49c3c3e1f05e9e46514e7567cd656359b1781881cebdd4d8caeb7"), looks := false }, kinds := [], alts := [], laidByText := true, laidKinds := [.data, .mapped, .pinned, .pinned], laidTests := true, laidLooks := .later }
def FnIsInvalidAnimationNameExactCardSaid : Prop := Claim7.holds Tryd.pinned (.plain (OpenSpec.ofChange fnIsInvalidAnimationNameExactSpec)) fnIsInvalidAnimationNameExactCard

/-- THE TIED CARD OF 'n011_154.FnIsInvalidAnimationNameIgnoresASCIICase'. -/
def fnIsInvalidAnimationNameIgnoresASCIICaseCard : Claim7 := { stood := { row := fnIsInvalidAnimationNameIgnoresASCIICaseRow, standIns := [], harness := (true, "f51cb7bb92d49c3c3e1f05e9e46514e7567cd656359b1781881cebdd4d8caeb7"), looks := false }, kinds := [], alts := [], laidByText := true, laidKinds := [.data, .mapped, .pinned, .pinned], laidTests := true, laidLooks := .later }
def FnIsInvalidAnimationNameIgnoresASCIICaseCardSaid : Prop := Claim7.holds Tryd.pinned (.plain (OpenSpec.ofChange fnIsInvalidAnimationNameIgnoresASCIICaseSpec)) fnIsInvalidAnimationNameIgnoresASCIICaseCard

/-- THE SECOND FORM's CARD OF 'n011_154.FnIsInvalidAnimationNameExact'. -/
def fnIsInvalidAnimationNameExactUptoCard : Claim7 := { stood := { row := fnIsInvalidAnimationNameExactUptoRow, standIns := [], harness := (true, "f51cb7bb92d49c3c3e1f05e9e46514e7567cd656359b1781881cebdd4d8caeb7"), looks := false }, kinds := [], alts := [], laidByText := true, laidKinds := [.data, .mapped, .pinned, .pinned], laidTests := true, laidLooks := .later }
def FnIsInvalidAnimationNameExactUptoCardSaid : Prop := Claim7.holds Tryd.pinned (.plain (OpenSpec.upto fnIsInvalidAnimationNameExactSpec)) fnIsInvalidAnimationNameExactUptoCard

/-- THE SECOND FORM's CARD OF 'n011_154.FnIsInvalidAnimationNameIgnoresASCIICase'. -/
def fnIsInvalidAnimationNameIgnoresASCIICaseUptoCard : Claim7 := { stood := { row := fnIsInvalidAnimationNameIgnoresASCIICaseUptoRow, standIns := [], harness := (true, "f51cb7bb92d49c3c3e1f05e9e46514e7567cd656359b1781881cebdd4d8caeb7"), looks := false }, kinds := [], alts := [], laidByText := true, laidKinds := [.data, .mapped, .pinned, .pinned], laidTests := true, laidLooks := .later }
def FnIsInvalidAnimationNameIgnoresASCIICaseUptoCardSaid : Prop := Claim7.holds Tryd.pinned (.plain (OpenSpec.upto fnIsInvalidAnimationNameIgnoresASCIICaseSpec)) fnIsInvalidAnimationNameIgnoresASCIICaseUptoCard
end Rows
end Go.Proofs.YtgojffmfadnojaaDoor
