/- FnScanMediaComparisonConsumesExactlyItsOperator: parts of the walk. Printed by gen_scanlaw.py. -/
import Derived.Test.YtceafaddhbabhaaSd
import Derived.Deep.RegionHeld3
import Derived.IntWalk
namespace Go.Proofs.Ytceafaddhbabhaa.ZT
open Go.RowKit Go.Proofs.Ytceafaddhbabhaa.TB
set_option linter.unusedVariables false
def ScanQ (n c m k : Nat) (K : Nat → Int) (T : Nat → ByteArray) (W L : Nat → Int) (w : World) (e : Ending) (w' : World) : Prop :=
  ∃ A', e = .returned (.tuple #[.int .u8 (m : Nat), .slice A' (n - k) (c - k)]) ∧ TR w' A' (n - k) (fun i j => tc K T W L (i + k) j) ∧ Below w.heap.size w w'
def SI (wr : World) (b x b' y : Nat) (t : ByteArray) (l k ws : Int) (w' : World) : Prop :=
  Below wr.heap.size wr w' ∧ b < wr.heap.size ∧ b' < wr.heap.size ∧ w'.cell? ⟨b, x, none⟩ = some (.int .u8 k) ∧ w'.cell? ⟨b, x + 1, none⟩ = some (.string t) ∧ w'.cell? ⟨b, x + 2, none⟩ = some (.int .u8 ws) ∧ w'.cell? ⟨b, x + 3, none⟩ = some (.int .i32 l) ∧
  w'.cell? ⟨b', y, none⟩ = some (.pointer none) ∧ w'.cell? ⟨b', y + 1, none⟩ = some (.string t) ∧ w'.cell? ⟨b', y + 2, none⟩ = some (.int .i32 l) ∧ w'.cell? ⟨b', y + 3, none⟩ = some (.int .u32 0) ∧ w'.cell? ⟨b', y + 4, none⟩ = some (.int .u16 0) ∧ w'.cell? ⟨b', y + 5, none⟩ = some (.int .u8 k) ∧ w'.cell? ⟨b', y + 6, none⟩ = some (.int .u8 ws)
theorem SI.step {wr : World} {b x b' y : Nat} {t : ByteArray} {l k ws : Int} {w1 w2 : World} (h : SI wr b x b' y t l k ws w1) (hb : Below w1.heap.size w1 w2) : SI wr b x b' y t l k ws w2 := by
  obtain ⟨h0, h1, h2, x0, x1, x2, x3, y0, y1, y2, y3, y4, y5, y6⟩ := h
  have e1 : b < w1.heap.size := Nat.lt_of_lt_of_le h1 h0.size
  have e2 : b' < w1.heap.size := Nat.lt_of_lt_of_le h2 h0.size
  exact ⟨h0.trans (hb.mono h0.size), h1, h2, (hb.cell e1).trans x0, (hb.cell e1).trans x1, (hb.cell e1).trans x2, (hb.cell e1).trans x3, (hb.cell e2).trans y0, (hb.cell e2).trans y1, (hb.cell e2).trans y2, (hb.cell e2).trans y3, (hb.cell e2).trans y4, (hb.cell e2).trans y5, (hb.cell e2).trans y6⟩
/-- A second '=' stands close behind. -/
def gB (n : Nat) (K W : Nat → Int) : Bool := decide (2 ≤ n) && (K 1 == 18) && wsB W
end Go.Proofs.Ytceafaddhbabhaa.ZT
