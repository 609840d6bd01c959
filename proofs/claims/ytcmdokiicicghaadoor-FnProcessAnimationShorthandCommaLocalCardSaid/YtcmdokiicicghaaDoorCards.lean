/-
  DERIVED. GIVEN WITH THE SEED: THE CARDS: each row of YtcmdokiicicghaaDoorRows.lean that lists a variable, with what it lists TIED to the program's text (the seventh form; the later family's looks); each row that meets fmt, with fmt's text TOLD by the authors' own Lean function (tested against real Go, not proved from fmt's source: count such statements apart). THE CARD IS WHAT COUNTS. Prove the row's statement (the work); the ties are given (YtcmdokiicicghaaDoorTie.lean); close each card by the builder's one call (the guide's Derived/Test/ToyasCard.lean, 'card_holds'). Laid BY PROGRAM, IN A SANDBOX (cutbox-door.mjs). By AI agents, Wed Nov 11 2026. No macro, syntax, notation, axiom, sorry.
-/
import Derived.Test.YtcmdokiicicghaaDoorRows
import GoSem.ClaimSeven
namespace Go.Proofs.YtcmdokiicicghaaDoor
namespace Rows

/-- THE TIED CARD OF 'n011_154.FnIsInvalidAnimationNameExact'. -/
def fnIsInvalidAnimationNameExactCard : Claim7 := { stood := { row := fnIsInvalidAnimationNameExactRow, standIns := [], harness := (true, "e8b6efc7a9115384e86424b63d388ea230c3bdfdd454ed0658ea8547706ec086"), looks := false }, kinds := [], alts := [], laidByText := true, laidKinds := [.data, .mapped, .pinned, .pinned], laidTests := true, laidLooks := .later }
def FnIsInvalidAnimationNameExactCardSaid : Prop := Claim7.holds Tryd.pinned (.plain (OpenSpec.ofChange fnIsInvalidAnimationNameExactSpec)) fnIsInvalidAnimationNameExactCard

/-- THE TIED CARD OF 'n011_154.FnIsInvalidAnimationNameIgnoresASCIICase'. -/
def fnIsInvalidAnimationNameIgnoresASCIICaseCard : Claim7 := { stood := { row := fnIsInvalidAnimationNameIgnoresASCIICaseRow, standIns := [], harness := (true, "e8b6efc7a9115384e86424b63d388ea230c3bdfdd454ed0658ea8547706ec086"), looks := false }, kinds := [], alts := [], laidByText := true, laidKinds := [.data, .mapped, .pinned, .pinned], laidTests := true, laidLooks := .later }
def FnIsInvalidAnimationNameIgnoresASCIICaseCardSaid : Prop := Claim7.holds Tryd.pinned (.plain (OpenSpec.ofChange fnIsInvalidAnimationNameIgnoresASCIICaseSpec)) fnIsInvalidAnimationNameIgnoresASCIICaseCard

/-- THE TIED CARD OF 'n011_154.FnProcessAnimationNameExact'. -/
def fnProcessAnimationNameExactCard : Claim7 := { stood := { row := fnProcessAnimationNameExactRow, standIns := [], harness := (true, "e8b6efc7a9115384e86424b63d388ea230c3bdfdd454ed0658ea8547706ec086"), looks := false }, kinds := [], alts := [], laidByText := true, laidKinds := [.data, .data, .mapped, .pinned, .pinned], laidTests := true, laidLooks := .later }
def FnProcessAnimationNameExactCardSaid : Prop := Claim7.holds Tryd.pinned (.plain (OpenSpec.ofChange fnProcessAnimationNameExactSpec)) fnProcessAnimationNameExactCard

/-- THE TIED CARD OF 'n011_154.FnProcessAnimationShorthandCommaLocal'. -/
def fnProcessAnimationShorthandCommaLocalCard : Claim7 := { stood := { row := fnProcessAnimationShorthandCommaLocalRow, standIns := [], harness := (true, "e8b6efc7a9115384e86424b63d388ea230c3bdfdd454ed0658ea8547706ec086"), looks := false }, kinds := [], alts := [], laidByText := true, laidKinds := [.data, .data, .mapped, .pinned, .pinned], laidTests := true, laidLooks := .later }
def FnProcessAnimationShorthandCommaLocalCardSaid : Prop := Claim7.holds Tryd.pinned (.plain (OpenSpec.ofChange fnProcessAnimationShorthandCommaLocalSpec)) fnProcessAnimationShorthandCommaLocalCard

/-- THE SECOND FORM's CARD OF 'n011_154.FnIsInvalidAnimationNameExact'. -/
def fnIsInvalidAnimationNameExactUptoCard : Claim7 := { stood := { row := fnIsInvalidAnimationNameExactUptoRow, standIns := [], harness := (true, "e8b6efc7a9115384e86424b63d388ea230c3bdfdd454ed0658ea8547706ec086"), looks := false }, kinds := [], alts := [], laidByText := true, laidKinds := [.data, .mapped, .pinned, .pinned], laidTests := true, laidLooks := .later }
def FnIsInvalidAnimationNameExactUptoCardSaid : Prop := Claim7.holds Tryd.pinned (.plain (OpenSpec.upto fnIsInvalidAnimationNameExactSpec)) fnIsInvalidAnimationNameExactUptoCard

/-- THE SECOND FORM's CARD OF 'n011_154.FnIsInvalidAnimationNameIgnoresASCIICase'. -/
def fnIsInvalidAnimationNameIgnoresASCIICaseUptoCard : Claim7 := { stood := { row := fnIsInvalidAnimationNameIgnoresASCIICaseUptoRow, standIns := [], harness := (true, "e8b6efc7a9115384e86424b63d388ea230c3bdfdd454ed0658ea8547706ec086"), looks := false }, kinds := [], alts := [], laidByText := true, laidKinds := [.data, .mapped, .pinned, .pinned], laidTests := true, laidLooks := .later }
def FnIsInvalidAnimationNameIgnoresASCIICaseUptoCardSaid : Prop := Claim7.holds Tryd.pinned (.plain (OpenSpec.upto fnIsInvalidAnimationNameIgnoresASCIICaseSpec)) fnIsInvalidAnimationNameIgnoresASCIICaseUptoCard

/-- THE SECOND FORM's CARD OF 'n011_154.FnProcessAnimationNameExact'. -/
def fnProcessAnimationNameExactUptoCard : Claim7 := { stood := { row := fnProcessAnimationNameExactUptoRow, standIns := [], harness := (true, "e8b6efc7a9115384e86424b63d388ea230c3bdfdd454ed0658ea8547706ec086"), looks := false }, kinds := [], alts := [], laidByText := true, laidKinds := [.data, .data, .mapped, .pinned, .pinned], laidTests := true, laidLooks := .later }
def FnProcessAnimationNameExactUptoCardSaid : Prop := Claim7.holds Tryd.pinned (.plain (OpenSpec.upto fnProcessAnimationNameExactSpec)) fnProcessAnimationNameExactUptoCard

/-- THE SECOND FORM's CARD OF 'n011_154.FnProcessAnimationShorthandCommaLocal'. -/
def fnProcessAnimationShorthandCommaLocalUptoCard : Claim7 := { stood := { row := fnProcessAnimationShorthandCommaLocalUptoRow, standIns := [], harness := (true, "e8b6efc7a9115384e86424b63d388ea230c3bdfdd454ed0658ea8547706ec086"), looks := false }, kinds := [], alts := [], laidByText := true, laidKinds := [.data, .data, .mapped, .pinned, .pinned], laidTests := true, laidLooks := .later }
def FnProcessAnimationShorthandCommaLocalUptoCardSaid : Prop := Claim7.holds Tryd.pinned (.plain (OpenSpec.upto fnProcessAnimationShorthandCommaLocalSpec)) fnProcessAnimationShorthandCommaLocalUptoCard
end Rows
end Go.Proofs.YtcmdokiicicghaaDoor
