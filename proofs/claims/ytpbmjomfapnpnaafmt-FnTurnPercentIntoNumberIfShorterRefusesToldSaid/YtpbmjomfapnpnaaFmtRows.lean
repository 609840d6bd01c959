/-
  No cell of these rows narrows 'for every input' (looked for: loops, veiled, ifaces, maps, wideKeys, modest, calm, conditions, laid).
  DERIVED. THE GIVEN ROWS OF THIS SEAT. 1 by the template 'for every input the law returns true; each argument reads behind the call as it read before'; 0 by the template 'total and deterministic' (their statements: YtpbmjomfapnpnaaFmtTotals.lean).
  GIVEN WITH THE SEED: the statements are not yours to turn. If you find one false, say at which input.
  Laid BY PROGRAM, IN A SANDBOX (cutbox-rows.mjs): the forced cells as the released guide's own fill.sh prints them over the translation 80bb7eac0622666b… (all of the seat's roots in one cut). By AI agents, Wed Nov 11 2026. No macro, syntax, notation, axiom, sorry.
-/
import Derived.Test.YtpbmjomfapnpnaaFmtChecked
import GoSem.Claim
import GoSem.ClaimJoined
import GoSem.ClaimMapViews
import Derived.JoinedTies
import Derived.KernelRfl
namespace Go.Proofs.YtpbmjomfapnpnaaFmt
/- THE CELL 'sum', in the pinned program and in every row, IS THE sha256 OF THE DUMP (.gsa) THAT YtpbmjomfapnpnaaFmtProg.lean LOADS. Nothing in Lean hashes anything: it is a label: what it is worth is what the hold of that sum in a sandbox is worth. -/
noncomputable def Tryf.pinned : Pinned := { name := "ytpbmjomfapnpnaafmt", sum := "80bb7eac0622666b118d9f7f059c700c8dd798d81dda4b2c5b65b8c8b7c3d380", checked := Tryf.checked }
namespace Rows
def none {H : Type} : Left H := { results := [], args := [] }

/-- 'n011_214.FnTurnPercentIntoNumberIfShorterRefuses': WHATEVER THE INPUT: true; the input reads as it did. -/
def fnTurnPercentIntoNumberIfShorterRefusesSpec : ChangeSpec := { name := "fnTurnPercentIntoNumberIfShorterRefuses", fn := fun _ => fun
  | [d1, d2] => { results := [.lit (.bool true)], args := [d1, d2] }
  | _ => none }
def fnTurnPercentIntoNumberIfShorterRefusesRow : OpenClaim := { program := "ytpbmjomfapnpnaafmt", sum := "80bb7eac0622666b118d9f7f059c700c8dd798d81dda4b2c5b65b8c8b7c3d380", func := "github.com/evanw/esbuild/n011_214.FnTurnPercentIntoNumberIfShorterRefuses", spec := "fnTurnPercentIntoNumberIfShorterRefuses", stops := ["fmt.Sprintf"], inPlace := ["internal/bytealg.IndexByteString", "internal/bytealg.IndexString", "internal/abi.NoEscape", "internal/bytealg.MakeNoZero", "fmt.Sprintf"], named := ["internal/bytealg.MaxLen"], apart := false }
/-- NO THEOREM (fmt's text is open here; it may be false): for the released tool's asking of the row's closed facts alone. THE STATEMENT IS 'FnTurnPercentIntoNumberIfShorterRefusesToldSaid' (YtpbmjomfapnpnaaFmtCards.lean). -/
def FnTurnPercentIntoNumberIfShorterRefusesFormAsk : Prop := fnTurnPercentIntoNumberIfShorterRefusesRow.holds Tryf.pinned (OpenSpec.ofChange fnTurnPercentIntoNumberIfShorterRefusesSpec)

/-- ITS FALSE NEIGHBOUR: 'it returns false'. Refute it at one input. -/
def fnTurnPercentIntoNumberIfShorterRefusesWrong : ChangeSpec := { name := "fnTurnPercentIntoNumberIfShorterRefuses", fn := fun _ => fun
  | [d1, d2] => { results := [.lit (.bool false)], args := [d1, d2] }
  | _ => none }
def FnTurnPercentIntoNumberIfShorterRefusesWrongFormAsk : Prop := fnTurnPercentIntoNumberIfShorterRefusesRow.holds Tryf.pinned (OpenSpec.ofChange fnTurnPercentIntoNumberIfShorterRefusesWrong)

end Rows
end Go.Proofs.YtpbmjomfapnpnaaFmt
