/- compactTokenQuad at tokens without children. Printed by gen_compact.py. -/
import Derived.Test.YtnolnlekdlfeaaaDoorGa
import Derived.Deep.RegionHeld3
namespace Go.Proofs.YtnolnlekdlfeaaaDoor.ZT
open Go.RowKit Go.Proofs.YtnolnlekdlfeaaaDoor.TB
set_option linter.unusedVariables false
theorem bs (K : Nat → Int) (T : Nat → ByteArray) (W L : Nat → Int) (W' : World) : (Instr.buildSlice 36 4 #[(0, .agg #[.pointer none, .string (T 0), .int .i32 (L 0), .int .u32 0, .int .u16 0, .int .u8 (K 0), .int .u8 (W 0)]), (1, .agg #[.pointer none, .string (T 1), .int .i32 (L 1), .int .u32 0, .int .u16 0, .int .u8 (K 1), .int .u8 (W 1)]), (2, .agg #[.pointer none, .string (T 2), .int .i32 (L 2), .int .u32 0, .int .u16 0, .int .u8 (K 2), .int .u8 (W 2)]), (3, .agg #[.pointer none, .string (T 3), .int .i32 (L 3), .int .u32 0, .int .u16 0, .int .u8 (K 3), .int .u8 (W 3)])]).run Tryd.prog W' = .ok (.slice (some ⟨W'.heap.size, 0, none⟩) 4 4) (W'.alloc (.cells #[.pointer none, .string (T 0), .int .i32 (L 0), .int .u32 0, .int .u16 0, .int .u8 (K 0), .int .u8 (W 0), .pointer none, .string (T 1), .int .i32 (L 1), .int .u32 0, .int .u16 0, .int .u8 (K 1), .int .u8 (W 1), .pointer none, .string (T 2), .int .i32 (L 2), .int .u32 0, .int .u16 0, .int .u8 (K 2), .int .u8 (W 2), .pointer none, .string (T 3), .int .i32 (L 3), .int .u32 0, .int .u16 0, .int .u8 (K 3), .int .u8 (W 3)] 47)) := by kernel_rfl
theorem tab_new {K : Nat → Int} {T : Nat → ByteArray} {W L : Nat → Int} (X : World) : Tab (X.alloc (.cells (q28 K T W L 0 1 2 3) 47)) X.heap.size 47 7 4 (tc K T W L) := by
  refine ⟨_, Blk.new X 47 _, rfl, fun i j hi hj => ?_⟩
  rcases fourI hi with rfl | rfl | rfl | rfl <;> rcases seven hj with rfl | rfl | rfl | rfl | rfl | rfl | rfl <;> rfl
theorem tab_ws {w : World} {g j : Nat} {K : Nat → Int} {T : Nat → ByteArray} {W L : Nat → Int} (h : Tab w g 47 7 4 (tc K T W L)) (hj : j < 4) (v : Int) : Tab (w.setCell ⟨g, j * 7 + 6, none⟩ (.int .u8 v)) g 47 7 4 (tc K T (fun i => if i = j then v else W i) L) := by
  refine (h.set hj (j := 6) (by omega) (.int .u8 v)).ext fun a b ha hb => ?_
  by_cases e : a = j
  · subst e
    rcases seven hb with rfl | rfl | rfl | rfl | rfl | rfl | rfl <;> simp [upd, tc]
  · rcases seven hb with rfl | rfl | rfl | rfl | rfl | rfl | rfl <;> simp [upd, tc, e]
theorem tr_of {w : World} {g m : Nat} {f : Nat → Nat → Value} (h : Tab w g 47 7 4 f) (hm : m ≤ 4) : TR w (some ⟨g, 0, none⟩) m f := by
  intro _
  refine ⟨g, 0, rfl, h.lt, fun i j hi hj => ?_⟩
  rw [Nat.zero_add]; exact h.cell (by omega) hj
/-- The whitespace flags of the j-th of m tokens. -/
def wsv (m : Nat) (mw : Bool) (j : Nat) : Int := (if mw = true ∧ j = 0 then 0 else 1) + (if j + 1 < m then 2 else 0)
theorem bt1 : bits .or .u8 0 1 = 1 := by decide
theorem bt2 : bits .or .u8 0 2 = 2 := by decide
theorem bt3 : bits .or .u8 1 2 = 3 := by decide
theorem ws_put {j : Nat} {v : Int} {Wf WS : Nat → Int} (h : Hid (∀ i, i < j → Wf i = WS i)) (hv : v = WS j) : Hid (∀ i, i < j + 1 → (if i = j then v else Wf i) = WS i) :=
  Lib.hid fun i hi => by
    by_cases e : i = j
    · subst e; rw [if_pos rfl]; exact hv
    · rw [if_neg e]; exact h.out i (by omega)
def CompP (m : Nat) (K : Nat → Int) (T : Nat → ByteArray) (L : Nat → Int) (mw : Bool) (w : World) (e : Ending) (w' : World) : Prop :=
  ∃ g W', e = .returned (.slice (some ⟨g, 0, none⟩) m 4) ∧ TR w' (some ⟨g, 0, none⟩) m (tc K T W' L) ∧ Below w.heap.size w w' ∧ (∀ i, i < m → W' i = wsv m mw i) ∧ w.heap.size ≤ g ∧ Tab w' g 47 7 4 (tc K T W' L)
end Go.Proofs.YtnolnlekdlfeaaaDoor.ZT
