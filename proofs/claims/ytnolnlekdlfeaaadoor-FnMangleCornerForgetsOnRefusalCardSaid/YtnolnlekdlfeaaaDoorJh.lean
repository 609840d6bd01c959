/- FnMangleCornerForgetsOnRefusal, walked: in the frame's form. -/
import Derived.Test.YtnolnlekdlfeaaaDoorJg
import Derived.OpenShut
namespace Go.Proofs.YtnolnlekdlfeaaaDoor.ZT
open Go.RowKit Go.Proofs.YtnolnlekdlfeaaaDoor.TB
theorem law4g (c : Nat → Int) (md : Int) (imp mw : Bool) (l : Nat → Int) (w : World) (w0 : ∀ i, i < 4 → (Lit.int .u8 (c i)).wf = true) (w1 : (Lit.int .u8 md).wf = true) (_ : ∀ i, i < 5 → (Lit.int .i32 (l i)).wf = true) :
    Calls Tryd.prog 4 #[.agg #[.int .u8 (c 0), .int .u8 (c 1), .int .u8 (c 2), .int .u8 (c 3)], .int .u8 md, .bool imp, .bool mw, .agg #[.int .i32 (l 0), .int .i32 (l 1), .int .i32 (l 2), .int .i32 (l 3), .int .i32 (l 4)]] w fun e w' => e = .returned (.bool true) ∧ Below w.heap.size w w' :=
  law4f c l md imp mw w (fun i hi => bounds_u8 (w0 i hi)) (bounds_u8 w1)
end Go.Proofs.YtnolnlekdlfeaaaDoor.ZT
