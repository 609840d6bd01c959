/- EqualIgnoringWhitespace at tokens without children. -/
import Derived.Test.YtnolnlekdlfeaaaDoorTq
namespace Go.Proofs.YtnolnlekdlfeaaaDoor.ZT
open Go.RowKit Go.Proofs.YtnolnlekdlfeaaaDoor.TB
set_option linter.unusedVariables false
def eqT (k k' : Int) (t t' : ByteArray) : Bool := (k == k') && (t.toList == t'.toList)
set_option maxRecDepth 100000 in
set_option maxHeartbeats 1000000 in
theorem equal32 (t t' : ByteArray) (l l' k k' ws ws' : Int) (w : World) : Calls Tryd.prog 27 #[.agg #[.pointer none, .string t, .int .i32 l, .int .u32 0, .int .u16 0, .int .u8 k, .int .u8 ws], .agg #[.pointer none, .string t', .int .i32 l', .int .u32 0, .int .u16 0, .int .u8 k', .int .u8 ws']] w fun e w' => e = .returned (.bool (eqT k k' t t')) ∧ Below w.heap.size w w' := by
  have HB := Lib.hid (fun (o o' : Obj) => show Below w.heap.size w ((w.alloc o).alloc o') from ((Below.refl _ _).alloc (Nat.le_refl _) _).alloc (by simp) _)
  unfold eqT
  cases h1 : (k == k')
  · go_enter Tryd.func27, Tryd.ntmps27
    go_wp2
    go_ret
    exact ⟨by simp, HB.out _ _⟩
  · cases h2 : (t.toList == t'.toList)
    · go_enter Tryd.func27, Tryd.ntmps27
      go_wp2
      go_ret
      exact ⟨by simp, HB.out _ _⟩
    · go_enter Tryd.func27, Tryd.ntmps27
      go_wp2
      go_ret
      exact ⟨by simp, HB.out _ _⟩
end Go.Proofs.YtnolnlekdlfeaaaDoor.ZT
