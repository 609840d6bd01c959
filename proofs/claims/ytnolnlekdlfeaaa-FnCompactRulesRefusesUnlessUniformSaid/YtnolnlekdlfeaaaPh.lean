/- FnCompactRulesRefusesUnlessUniform, walked: in the frame's form. -/
import Derived.Test.YtnolnlekdlfeaaaPg
import Derived.OpenShut
namespace Go.Proofs.Ytnolnlekdlfeaaa.ZT
open Go.RowKit Go.Proofs.Ytnolnlekdlfeaaa.TB
theorem law3g (p : Nat → Bool) (st : Nat → Int) (v : Nat → Bool) (x : Nat → Int) (A : Option Addr) (n cp : Nat) (z : Nat → Int) (im mw : Bool) (w : World) (w1 : ∀ i, i < 4 → (Lit.int .u8 (st i)).wf = true) (w3 : ∀ i, i < 4 → (Lit.int .u16 (x i)).wf = true)
    (r : 0 < n → ∃ b o, A = some ⟨b, o, none⟩ ∧ b < w.heap.size ∧ ∀ i, i < n → w.cell? ⟨b, o + i, none⟩ = some (.int .i32 (z i))) (_ : A = none → n = 0) (hn : n ≤ maxLen) :
    Calls Try.prog 3 #[.agg #[.bool (p 0), .bool (p 1), .bool (p 2), .bool (p 3)], .agg #[.int .u8 (st 0), .int .u8 (st 1), .int .u8 (st 2), .int .u8 (st 3)], .agg #[.bool (v 0), .bool (v 1), .bool (v 2), .bool (v 3)], .agg #[.int .u16 (x 0), .int .u16 (x 1), .int .u16 (x 2), .int .u16 (x 3)], .slice A n cp, .bool im, .bool mw] w fun e w' => e = .returned (.bool true) ∧ Below w.heap.size w w' :=
  law3 p v st x z A n cp im mw w (fun i hi => bounds_u8 (w1 i hi)) (fun i hi => bounds_u16 (w3 i hi)) r (Nat.le_trans hn (by decide +kernel))
end Go.Proofs.Ytnolnlekdlfeaaa.ZT
