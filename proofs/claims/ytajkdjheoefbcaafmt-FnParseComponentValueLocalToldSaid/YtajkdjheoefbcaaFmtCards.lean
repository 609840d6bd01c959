/-
  DERIVED. GIVEN WITH THE SEED: THE CARDS: each row of YtajkdjheoefbcaaFmtRows.lean that lists a variable, with what it lists TIED to the program's text (the seventh form; the later family's looks); each row that meets fmt, with fmt's text TOLD by the authors' own Lean function (tested against real Go, not proved from fmt's source: count such statements apart). THE CARD IS WHAT COUNTS. Prove the row's statement (the work); the ties are given (YtajkdjheoefbcaaFmtTie.lean); close each card by the builder's one call (the guide's Derived/Test/ToyasCard.lean, 'card_holds'). Laid BY PROGRAM, IN A SANDBOX (cutbox-door.mjs). By AI agents, Wed Nov 11 2026. No macro, syntax, notation, axiom, sorry.
-/
import Derived.Test.YtajkdjheoefbcaaFmtRows
import GoSem.ClaimSeven
namespace Go.Proofs.YtajkdjheoefbcaaFmt
namespace Rows

/-- THE TOLD AND TIED CARD OF 'n011_198.FnParseBlockModel'. -/
def fnParseBlockModelCard : Claim7 := { stood := { row := fnParseBlockModelRow, standIns := [], harness := (true, "6f1fa5556594b285705f0c2177600db32436dd2ed262a5925ffb4e15f4726049"), looks := false }, told := true, laidByText := true, laidKinds := [.data, .data, .pinned], laidTests := true, laidLooks := .later, goes := false }
def FnParseBlockModelToldSaid : Prop := Claim7.holds Tryf.pinned (.plain (OpenSpec.ofChange fnParseBlockModelSpec)) fnParseBlockModelCard
/-- ITS FALSE NEIGHBOUR. Refute it at one input. -/
def FnParseBlockModelToldWrongFalsely : Prop := Claim7.holds Tryf.pinned (.plain (OpenSpec.ofChange fnParseBlockModelWrong)) fnParseBlockModelCard

/-- THE TOLD AND TIED CARD OF 'n011_198.FnParseComponentValueLocal'. -/
def fnParseComponentValueLocalCard : Claim7 := { stood := { row := fnParseComponentValueLocalRow, standIns := [], harness := (true, "6f1fa5556594b285705f0c2177600db32436dd2ed262a5925ffb4e15f4726049"), looks := false }, told := true, laidByText := true, laidKinds := [.data, .data, .pinned], laidTests := true, laidLooks := .later, goes := false }
def FnParseComponentValueLocalToldSaid : Prop := Claim7.holds Tryf.pinned (.plain (OpenSpec.ofChange fnParseComponentValueLocalSpec)) fnParseComponentValueLocalCard
/-- ITS FALSE NEIGHBOUR. Refute it at one input. -/
def FnParseComponentValueLocalToldWrongFalsely : Prop := Claim7.holds Tryf.pinned (.plain (OpenSpec.ofChange fnParseComponentValueLocalWrong)) fnParseComponentValueLocalCard
end Rows
end Go.Proofs.YtajkdjheoefbcaaFmt
