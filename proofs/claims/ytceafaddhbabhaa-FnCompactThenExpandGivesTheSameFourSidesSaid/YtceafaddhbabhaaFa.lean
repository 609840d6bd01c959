/- FnExpandTokenQuadAcceptsExactlyOneToFourAllowedTokens: the walk. Printed by gen_expandlaw2.py. -/
import Derived.Test.YtceafaddhbabhaaEz
import Derived.Deep.RegionHeld3
namespace Go.Proofs.Ytceafaddhbabhaa.ZT
open Go.RowKit Go.Proofs.Ytceafaddhbabhaa.TB
set_option linter.unusedVariables false
theorem fourI {i : Nat} (h : i < 4) : i = 0 ∨ i = 1 ∨ i = 2 ∨ i = 3 := by omega
theorem tab_q {w : World} {g n : Nat} {K : Nat → Int} {T : Nat → ByteArray} {W L : Nat → Int} (h : Blk w g 35 (q28 K T W L (sel n 0) (sel n 1) (sel n 2) (sel n 3))) : Tab w g 35 7 4 (fun i j => tc K T W L (sel n i) j) := by
  refine ⟨_, h, rfl, fun i j hi hj => ?_⟩
  rcases fourI hi with rfl | rfl | rfl | rfl <;> rcases seven hj with rfl | rfl | rfl | rfl | rfl | rfl | rfl <;> rfl
def zf : Nat → Nat → Value := fun _ j => #[Value.pointer none, .string { data := #[] }, .int .i32 0, .int .u32 0, .int .u16 0, .int .u8 0, .int .u8 0][j]!
theorem tab_z {w : World} {g : Nat} (h : Blk w g 35 z28) : Tab w g 35 7 4 zf := by
  refine ⟨_, h, rfl, fun i j hi hj => ?_⟩
  rcases fourI hi with rfl | rfl | rfl | rfl <;> rcases seven hj with rfl | rfl | rfl | rfl | rfl | rfl | rfl <;> rfl
theorem sel_lt {n i : Nat} (h1 : 1 ≤ n) (h4 : n ≤ 4) : sel n i < n := by
  unfold sel; split
  · assumption
  · split <;> omega
theorem sel_self {n i : Nat} (h : i < n) : sel n i = i := by unfold sel; rw [if_pos h]
def SJ (wr : World) (b x b' y : Nat) (t : ByteArray) (l k ws : Int) (t' : ByteArray) (l' k' ws' : Int) (w' : World) : Prop :=
  Below wr.heap.size wr w' ∧ b < wr.heap.size ∧ b' < wr.heap.size ∧ w'.cell? ⟨b, x, none⟩ = some (.pointer none) ∧ w'.cell? ⟨b, x + 1, none⟩ = some (.string (t)) ∧ w'.cell? ⟨b, x + 2, none⟩ = some (.int .i32 (l)) ∧ w'.cell? ⟨b, x + 3, none⟩ = some (.int .u32 0) ∧ w'.cell? ⟨b, x + 4, none⟩ = some (.int .u16 0) ∧ w'.cell? ⟨b, x + 5, none⟩ = some (.int .u8 (k)) ∧ w'.cell? ⟨b, x + 6, none⟩ = some (.int .u8 (ws)) ∧ w'.cell? ⟨b', y, none⟩ = some (.pointer none) ∧ w'.cell? ⟨b', y + 1, none⟩ = some (.string (t')) ∧ w'.cell? ⟨b', y + 2, none⟩ = some (.int .i32 (l')) ∧ w'.cell? ⟨b', y + 3, none⟩ = some (.int .u32 0) ∧ w'.cell? ⟨b', y + 4, none⟩ = some (.int .u16 0) ∧ w'.cell? ⟨b', y + 5, none⟩ = some (.int .u8 (k')) ∧ w'.cell? ⟨b', y + 6, none⟩ = some (.int .u8 (ws'))
theorem SJ.step {wr : World} {b x b' y : Nat} {t : ByteArray} {l k ws : Int} {t' : ByteArray} {l' k' ws' : Int} {w1 w2 : World} (h : SJ wr b x b' y t l k ws t' l' k' ws' w1) (hb : Below w1.heap.size w1 w2) : SJ wr b x b' y t l k ws t' l' k' ws' w2 := by
  obtain ⟨h0, h1, h2, x0, x1, x2, x3, x4, x5, x6, y0, y1, y2, y3, y4, y5, y6⟩ := h
  have e1 : b < w1.heap.size := Nat.lt_of_lt_of_le h1 h0.size
  have e2 : b' < w1.heap.size := Nat.lt_of_lt_of_le h2 h0.size
  exact ⟨h0.trans (hb.mono h0.size), h1, h2, (hb.cell e1).trans x0, (hb.cell e1).trans x1, (hb.cell e1).trans x2, (hb.cell e1).trans x3, (hb.cell e1).trans x4, (hb.cell e1).trans x5, (hb.cell e1).trans x6, (hb.cell e2).trans y0, (hb.cell e2).trans y1, (hb.cell e2).trans y2, (hb.cell e2).trans y3, (hb.cell e2).trans y4, (hb.cell e2).trans y5, (hb.cell e2).trans y6⟩
theorem QOk.yes {n : Nat} {s : ByteArray} {K : Nat → Int} {T : Nat → ByteArray} {W L : Nat → Int} {Q : Array Value} {bb : Bool} (h : QOk n s K T W L Q bb) (ho : okAll n s K T) : Q = q28 K T W L (sel n 0) (sel n 1) (sel n 2) (sel n 3) ∧ bb = true := by
  rcases h with ⟨_, h1, h2⟩ | ⟨h, _⟩
  · exact ⟨h1, h2⟩
  · exact absurd ho h
theorem QOk.no {n : Nat} {s : ByteArray} {K : Nat → Int} {T : Nat → ByteArray} {W L : Nat → Int} {Q : Array Value} {bb : Bool} (h : QOk n s K T W L Q bb) (ho : ¬ okAll n s K T) : Q = z28 ∧ bb = false := by
  rcases h with ⟨h, _⟩ | ⟨_, h1, h2⟩
  · exact absurd h ho
  · exact ⟨h1, h2⟩
end Go.Proofs.Ytceafaddhbabhaa.ZT
