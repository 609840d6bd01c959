/- compactTokenQuad, all cases; and the exported wrapper. -/
import Derived.Test.YtnolnlekdlfeaaaDoorGc1
import Derived.Test.YtnolnlekdlfeaaaDoorGc2
import Derived.Test.YtnolnlekdlfeaaaDoorGc3
import Derived.Test.YtnolnlekdlfeaaaDoorGc4
namespace Go.Proofs.YtnolnlekdlfeaaaDoor.ZT
open Go.RowKit Go.Proofs.YtnolnlekdlfeaaaDoor.TB
set_option linter.unusedVariables false
def cm (K : Nat → Int) (T : Nat → ByteArray) : Nat :=
  if eqT (K 3) (K 1) (T 3) (T 1) = true then (if eqT (K 2) (K 0) (T 2) (T 0) = true then (if eqT (K 1) (K 0) (T 1) (T 0) = true then 1 else 2) else 3) else 4
theorem compact_any (K : Nat → Int) (T : Nat → ByteArray) (W L : Nat → Int) (mw : Bool) (w : World) :
    Calls Tryd.prog 36 #[.agg #[.pointer none, .string (T 0), .int .i32 (L 0), .int .u32 0, .int .u16 0, .int .u8 (K 0), .int .u8 (W 0)], .agg #[.pointer none, .string (T 1), .int .i32 (L 1), .int .u32 0, .int .u16 0, .int .u8 (K 1), .int .u8 (W 1)], .agg #[.pointer none, .string (T 2), .int .i32 (L 2), .int .u32 0, .int .u16 0, .int .u8 (K 2), .int .u8 (W 2)], .agg #[.pointer none, .string (T 3), .int .i32 (L 3), .int .u32 0, .int .u16 0, .int .u8 (K 3), .int .u8 (W 3)], .bool mw] w (CompP (cm K T) K T L mw w) := by
  unfold cm
  cases e31 : eqT (K 3) (K 1) (T 3) (T 1)
  · exact compact4 K T W L mw w e31
  · cases e20 : eqT (K 2) (K 0) (T 2) (T 0)
    · exact compact3 K T W L mw w e31 e20
    · cases e10 : eqT (K 1) (K 0) (T 1) (T 0)
      · exact compact2 K T W L mw w e31 e20 e10
      · exact compact1 K T W L mw w e31 e20 e10
end Go.Proofs.YtnolnlekdlfeaaaDoor.ZT
