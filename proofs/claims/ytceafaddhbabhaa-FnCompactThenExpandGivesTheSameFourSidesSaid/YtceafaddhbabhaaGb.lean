/- compactTokenQuad at tokens without children. Printed by gen_compact.py. -/
import Derived.Test.YtceafaddhbabhaaGa
import Derived.Deep.RegionHeld3
namespace Go.Proofs.Ytceafaddhbabhaa.ZT
open Go.RowKit Go.Proofs.Ytceafaddhbabhaa.TB
set_option linter.unusedVariables false
theorem bs (K : Nat → Int) (T : Nat → ByteArray) (W L : Nat → Int) (W' : World) : (Instr.buildSlice 38 4 #[(0, .agg #[.pointer none, .string (T 0), .int .i32 (L 0), .int .u32 0, .int .u16 0, .int .u8 (K 0), .int .u8 (W 0)]), (1, .agg #[.pointer none, .string (T 1), .int .i32 (L 1), .int .u32 0, .int .u16 0, .int .u8 (K 1), .int .u8 (W 1)]), (2, .agg #[.pointer none, .string (T 2), .int .i32 (L 2), .int .u32 0, .int .u16 0, .int .u8 (K 2), .int .u8 (W 2)]), (3, .agg #[.pointer none, .string (T 3), .int .i32 (L 3), .int .u32 0, .int .u16 0, .int .u8 (K 3), .int .u8 (W 3)])]).run Try.prog W' = .ok (.slice (some ⟨W'.heap.size, 0, none⟩) 4 4) (W'.alloc (.cells #[.pointer none, .string (T 0), .int .i32 (L 0), .int .u32 0, .int .u16 0, .int .u8 (K 0), .int .u8 (W 0), .pointer none, .string (T 1), .int .i32 (L 1), .int .u32 0, .int .u16 0, .int .u8 (K 1), .int .u8 (W 1), .pointer none, .string (T 2), .int .i32 (L 2), .int .u32 0, .int .u16 0, .int .u8 (K 2), .int .u8 (W 2), .pointer none, .string (T 3), .int .i32 (L 3), .int .u32 0, .int .u16 0, .int .u8 (K 3), .int .u8 (W 3)] 34)) := by kernel_rfl
theorem tab_new {K : Nat → Int} {T : Nat → ByteArray} {W L : Nat → Int} (X : World) : Tab (X.alloc (.cells (q28 K T W L 0 1 2 3) 34)) X.heap.size 34 7 4 (tc K T W L) := by
  refine ⟨_, Blk.new X 34 _, rfl, fun i j hi hj => ?_⟩
  rcases fourI hi with rfl | rfl | rfl | rfl <;> rcases seven hj with rfl | rfl | rfl | rfl | rfl | rfl | rfl <;> rfl
theorem tab_ws {w : World} {g j : Nat} {K : Nat → Int} {T : Nat → ByteArray} {W L : Nat → Int} (h : Tab w g 34 7 4 (tc K T W L)) (hj : j < 4) (v : Int) : Tab (w.setCell ⟨g, j * 7 + 6, none⟩ (.int .u8 v)) g 34 7 4 (tc K T (fun i => if i = j then v else W i) L) := by
  refine (h.set hj (j := 6) (by omega) (.int .u8 v)).ext fun a b ha hb => ?_
  by_cases e : a = j
  · subst e
    rcases seven hb with rfl | rfl | rfl | rfl | rfl | rfl | rfl <;> simp [upd, tc]
  · rcases seven hb with rfl | rfl | rfl | rfl | rfl | rfl | rfl <;> simp [upd, tc, e]
theorem tr_of {w : World} {g m : Nat} {f : Nat → Nat → Value} (h : Tab w g 34 7 4 f) (hm : m ≤ 4) : TR w (some ⟨g, 0, none⟩) m f := by
  intro _
  refine ⟨g, 0, rfl, h.lt, fun i j hi hj => ?_⟩
  rw [Nat.zero_add]; exact h.cell (by omega) hj
def CompP (m : Nat) (K : Nat → Int) (T : Nat → ByteArray) (L : Nat → Int) (w : World) (e : Ending) (w' : World) : Prop :=
  ∃ g W', e = .returned (.slice (some ⟨g, 0, none⟩) m 4) ∧ TR w' (some ⟨g, 0, none⟩) m (tc K T W' L) ∧ Below w.heap.size w w'
end Go.Proofs.Ytceafaddhbabhaa.ZT
