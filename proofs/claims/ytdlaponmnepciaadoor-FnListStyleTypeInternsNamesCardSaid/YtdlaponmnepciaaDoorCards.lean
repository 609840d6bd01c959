/-
  DERIVED. GIVEN WITH THE SEED: THE CARDS: each row of YtdlaponmnepciaaDoorRows.lean that lists a variable, with what it lists TIED to the program's text (the seventh form; the later family's looks); each row that meets fmt, with fmt's text TOLD by the authors' own Lean function (tested against real Go, not proved from fmt's source: count such statements apart). THE CARD IS WHAT COUNTS. Prove the row's statement (the work); the ties are given (YtdlaponmnepciaaDoorTie.lean); close each card by the builder's one call (the guide's Derived/Test/ToyasCard.lean, 'card_holds'). Laid BY PROGRAM, IN A SANDBOX (cutbox-door.mjs). By AI agents, Wed Nov 11 2026. No macro, syntax, notation, axiom, sorry.
-/
import Derived.Test.YtdlaponmnepciaaDoorRows
import GoSem.ClaimSeven
namespace Go.Proofs.YtdlaponmnepciaaDoor
namespace Rows

/-- THE TIED CARD OF 'n011_231.FnListStyleTypeExact'. -/
def fnListStyleTypeExactCard : Claim7 := { stood := { row := fnListStyleTypeExactRow, standIns := [], harness := (true, "55d215ea2a53b9479b646ed25bf9a320af9456167f2728f788d83c8444c008bb"), looks := false }, kinds := [], alts := [], laidByText := true, laidKinds := [.data, .data, .mapped, .mapped, .pinned, .pinned], laidTests := true, laidLooks := .later }
def FnListStyleTypeExactCardSaid : Prop := Claim7.holds Tryd.pinned (.plain (OpenSpec.ofChange fnListStyleTypeExactSpec)) fnListStyleTypeExactCard

/-- THE TIED CARD OF 'n011_231.FnListStyleTypeInternsNames'. -/
def fnListStyleTypeInternsNamesCard : Claim7 := { stood := { row := fnListStyleTypeInternsNamesRow, standIns := [], harness := (true, "55d215ea2a53b9479b646ed25bf9a320af9456167f2728f788d83c8444c008bb"), looks := false }, kinds := [], alts := [], laidByText := true, laidKinds := [.data, .data, .mapped, .mapped, .pinned, .pinned], laidTests := true, laidLooks := .later }
def FnListStyleTypeInternsNamesCardSaid : Prop := Claim7.holds Tryd.pinned (.plain (OpenSpec.ofChange fnListStyleTypeInternsNamesSpec)) fnListStyleTypeInternsNamesCard

/-- THE SECOND FORM's CARD OF 'n011_231.FnListStyleTypeExact'. -/
def fnListStyleTypeExactUptoCard : Claim7 := { stood := { row := fnListStyleTypeExactUptoRow, standIns := [], harness := (true, "55d215ea2a53b9479b646ed25bf9a320af9456167f2728f788d83c8444c008bb"), looks := false }, kinds := [], alts := [], laidByText := true, laidKinds := [.data, .data, .mapped, .mapped, .pinned, .pinned], laidTests := true, laidLooks := .later }
def FnListStyleTypeExactUptoCardSaid : Prop := Claim7.holds Tryd.pinned (.plain (OpenSpec.upto fnListStyleTypeExactSpec)) fnListStyleTypeExactUptoCard

/-- THE SECOND FORM's CARD OF 'n011_231.FnListStyleTypeInternsNames'. -/
def fnListStyleTypeInternsNamesUptoCard : Claim7 := { stood := { row := fnListStyleTypeInternsNamesUptoRow, standIns := [], harness := (true, "55d215ea2a53b9479b646ed25bf9a320af9456167f2728f788d83c8444c008bb"), looks := false }, kinds := [], alts := [], laidByText := true, laidKinds := [.data, .data, .mapped, .mapped, .pinned, .pinned], laidTests := true, laidLooks := .later }
def FnListStyleTypeInternsNamesUptoCardSaid : Prop := Claim7.holds Tryd.pinned (.plain (OpenSpec.upto fnListStyleTypeInternsNamesSpec)) fnListStyleTypeInternsNamesUptoCard
end Rows
end Go.Proofs.YtdlaponmnepciaaDoor
