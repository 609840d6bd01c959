/- FnMangleCornersCaseTable, walked: in the frame's form. -/
import Derived.Test.YtnolnlekdlfeaaaDoorMn
import Derived.OpenShut
namespace Go.Proofs.YtnolnlekdlfeaaaDoor.ZT
open Go.RowKit Go.Proofs.YtnolnlekdlfeaaaDoor.TB
set_option linter.unusedVariables false
theorem law3f (A : Option Addr) (n c : Nat) (z : Nat → Int) (im mw : Bool) (l : Int) (w : World)
    (r : 0 < n → ∃ b o, A = some ⟨b, o, none⟩ ∧ b < w.heap.size ∧ ∀ i, i < n → w.cell? ⟨b, o + i, none⟩ = some (.int .u8 (z i))) (m : A = none → n = 0) (h : n ≤ maxLen) (f : ∀ i, i < n → (Lit.int .u8 (z i)).wf = true) (wl : (Lit.int .i32 l).wf = true) :
    Calls Tryd.prog 3 #[.slice A n c, .bool im, .bool mw, .int .i32 l] w fun e w' => e = .returned (.bool true) ∧ Below w.heap.size w w' :=
  law3 A n c z im mw l w r m h (fun i hi => bounds_u8 (f i hi))
end Go.Proofs.YtnolnlekdlfeaaaDoor.ZT
