/-
  DERIVED. GIVEN WITH THE SEED: THE CARDS: each row of YtpbmjomfapnpnaaFmtRows.lean that lists a variable, with what it lists TIED to the program's text (the seventh form; the later family's looks); each row that meets fmt, with fmt's text TOLD by the authors' own Lean function (tested against real Go, not proved from fmt's source: count such statements apart). THE CARD IS WHAT COUNTS. Prove the row's statement (the work); the ties are given (YtpbmjomfapnpnaaFmtTie.lean); close each card by the builder's one call (the guide's Derived/Test/ToyasCard.lean, 'card_holds'). Laid BY PROGRAM, IN A SANDBOX (cutbox-door.mjs). By AI agents, Wed Nov 11 2026. No macro, syntax, notation, axiom, sorry.
-/
import Derived.Test.YtpbmjomfapnpnaaFmtRows
import GoSem.ClaimSeven
namespace Go.Proofs.YtpbmjomfapnpnaaFmt
namespace Rows

/-- THE TOLD CARD OF 'n011_214.FnTurnPercentIntoNumberIfShorterRefuses'. -/
def fnTurnPercentIntoNumberIfShorterRefusesCard : Claim7 := { stood := { row := fnTurnPercentIntoNumberIfShorterRefusesRow, standIns := [], harness := (true, "525e948e8aec16fa1f256634464ed8c437610d2235488bce1085c9b6475728b6"), looks := false }, told := true, goes := false }
def FnTurnPercentIntoNumberIfShorterRefusesToldSaid : Prop := Claim7.holds Tryf.pinned (.plain (OpenSpec.ofChange fnTurnPercentIntoNumberIfShorterRefusesSpec)) fnTurnPercentIntoNumberIfShorterRefusesCard
/-- ITS FALSE NEIGHBOUR. Refute it at one input. -/
def FnTurnPercentIntoNumberIfShorterRefusesToldWrongFalsely : Prop := Claim7.holds Tryf.pinned (.plain (OpenSpec.ofChange fnTurnPercentIntoNumberIfShorterRefusesWrong)) fnTurnPercentIntoNumberIfShorterRefusesCard
end Rows
end Go.Proofs.YtpbmjomfapnpnaaFmt
