/- Tokens in tables. -/
import Derived.Test.YtnolnlekdlfeaaaDoorProg
import Derived.Test.YtnolnlekdlfeaaaDoorTab
import Derived.WalkKit
import Derived.WalkLawsBesides
import Derived.WalkSpells
import Derived.Lib.Hide
import Derived.Handy
import Derived.IntWalk
import Derived.Outline
import Derived.Laws.Tables
import Derived.Deep.QuietTactic
import Derived.BigQuiet
import Derived.LoopTactic
import Derived.RegionTactic
import Derived.BigRegion
import Derived.Deep.Cut
import Derived.Deep.DeepCutAuto
import Derived.Deep.RegionHeld3
import Derived.StillTactics
import Derived.WalkMore
namespace Go.Proofs.YtnolnlekdlfeaaaDoor.ZT
open Go.RowKit Go.Proofs.YtnolnlekdlfeaaaDoor.TB
set_option linter.unusedVariables false
theorem add1 (b o i : Nat) : (⟨b, o, none⟩ : Addr).add i = ⟨b, o + i, none⟩ := Addr.add_mid b o i
/-- A token's cells. -/
def tc (K : Nat → Int) (T : Nat → ByteArray) (W L : Nat → Int) : Nat → Nat → Value := fun i j => #[Value.pointer none, .string (T i), .int .i32 (L i), .int .u32 0, .int .u16 0, .int .u8 (K i), .int .u8 (W i)][j]!
def tpart (K : Nat → Int) (T : Nat → ByteArray) (W L : Nat → Int) (k : Nat) : Nat → Nat → Value := fun i j => if i < k then tc K T W L i j else #[Value.pointer none, .string ByteArray.empty, .int .i32 0, .int .u32 0, .int .u16 0, .int .u8 0, .int .u8 0][j]!
theorem seven {j : Nat} (h : j < 7) : j = 0 ∨ j = 1 ∨ j = 2 ∨ j = 3 ∨ j = 4 ∨ j = 5 ∨ j = 6 := by omega
theorem tpart_step {w : World} {g n k : Nat} {K : Nat → Int} {T : Nat → ByteArray} {W L : Nat → Int} (h : Tab w g 47 7 n (tpart K T W L k)) (hk : k < n) :
    Tab ((((w.setCell ⟨g, k * 7 + 5, none⟩ (.int .u8 (K k))).setCell ⟨g, k * 7 + 1, none⟩ (.string (T k))).setCell ⟨g, k * 7 + 6, none⟩ (.int .u8 (W k))).setCell ⟨g, k * 7 + 2, none⟩ (.int .i32 (L k))) g 47 7 n (tpart K T W L (k + 1)) := by
  refine ((((h.set hk (j := 5) (by omega) (.int .u8 (K k))).set hk (j := 1) (by omega) (.string (T k))).set hk (j := 6) (by omega) (.int .u8 (W k))).set hk (j := 2) (by omega) (.int .i32 (L k))).ext fun i j hi hj => ?_
  by_cases e : i = k
  · subst e
    rcases seven hj with rfl | rfl | rfl | rfl | rfl | rfl | rfl <;> simp [upd, tpart, tc]
  · have e1 : (i < k + 1) = (i < k) := by simp; omega
    simp [upd, tpart, e, e1]
/-- A slice of tokens. -/
def TR (w : World) (A : Option Addr) (n : Nat) (f : Nat → Nat → Value) : Prop :=
  0 < n → ∃ b o, A = some ⟨b, o, none⟩ ∧ b < w.heap.size ∧ ∀ i j, i < n → j < 7 → w.cell? ⟨b, o + i * 7 + j, none⟩ = some (f i j)
theorem TR.below {w w' : World} {A : Option Addr} {n : Nat} {f : Nat → Nat → Value} (h : TR w A n f) (hb : Below w.heap.size w w') : TR w' A n f := by
  intro hn
  obtain ⟨b, o, e, hl, hc⟩ := h hn
  exact ⟨b, o, e, Nat.lt_of_lt_of_le hl hb.size, fun i j hi hj => by rw [hb.cell hl]; exact hc i j hi hj⟩
theorem TR.of_tab {w : World} {g n : Nat} {f : Nat → Nat → Value} (h : Tab w g 47 7 n f) : TR w (some ⟨g, 0, none⟩) n f := by
  intro hn
  refine ⟨g, 0, rfl, h.lt, fun i j hi hj => ?_⟩
  rw [Nat.zero_add]; exact h.cell hi hj
def q28 (K : Nat → Int) (T : Nat → ByteArray) (W L : Nat → Int) (a b c d : Nat) : Array Value := #[.pointer none, .string (T a), .int .i32 (L a), .int .u32 0, .int .u16 0, .int .u8 (K a), .int .u8 (W a), .pointer none, .string (T b), .int .i32 (L b), .int .u32 0, .int .u16 0, .int .u8 (K b), .int .u8 (W b), .pointer none, .string (T c), .int .i32 (L c), .int .u32 0, .int .u16 0, .int .u8 (K c), .int .u8 (W c), .pointer none, .string (T d), .int .i32 (L d), .int .u32 0, .int .u16 0, .int .u8 (K d), .int .u8 (W d)]
def z28 : Array Value := #[.pointer none, .string { data := #[] }, .int .i32 0, .int .u32 0, .int .u16 0, .int .u8 0, .int .u8 0, .pointer none, .string { data := #[] }, .int .i32 0, .int .u32 0, .int .u16 0, .int .u8 0, .int .u8 0, .pointer none, .string { data := #[] }, .int .i32 0, .int .u32 0, .int .u16 0, .int .u8 0, .int .u8 0, .pointer none, .string { data := #[] }, .int .i32 0, .int .u32 0, .int .u16 0, .int .u8 0, .int .u8 0]
def sel (n i : Nat) : Nat := if i < n then i else if i = 3 ∧ 2 ≤ n then 1 else 0
theorem fourI {i : Nat} (h : i < 4) : i = 0 ∨ i = 1 ∨ i = 2 ∨ i = 3 := by omega
theorem tab_q {w : World} {g n : Nat} {K : Nat → Int} {T : Nat → ByteArray} {W L : Nat → Int} (h : Blk w g 86 (q28 K T W L (sel n 0) (sel n 1) (sel n 2) (sel n 3))) : Tab w g 86 7 4 (fun i j => tc K T W L (sel n i) j) := by
  refine ⟨_, h, rfl, fun i j hi hj => ?_⟩
  rcases fourI hi with rfl | rfl | rfl | rfl <;> rcases seven hj with rfl | rfl | rfl | rfl | rfl | rfl | rfl <;> rfl
def zf : Nat → Nat → Value := fun _ j => #[Value.pointer none, .string { data := #[] }, .int .i32 0, .int .u32 0, .int .u16 0, .int .u8 0, .int .u8 0][j]!
theorem tab_z {w : World} {g : Nat} (h : Blk w g 86 z28) : Tab w g 86 7 4 zf := by
  refine ⟨_, h, rfl, fun i j hi hj => ?_⟩
  rcases fourI hi with rfl | rfl | rfl | rfl <;> rcases seven hj with rfl | rfl | rfl | rfl | rfl | rfl | rfl <;> rfl
theorem sel_lt {n i : Nat} (h1 : 1 ≤ n) (h4 : n ≤ 4) : sel n i < n := by
  unfold sel; split
  · assumption
  · split <;> omega
theorem sel_self {n i : Nat} (h : i < n) : sel n i = i := by unfold sel; rw [if_pos h]
def SJ (wr : World) (b x b' y : Nat) (t : ByteArray) (l k ws : Int) (t' : ByteArray) (l' k' ws' : Int) (w' : World) : Prop :=
  Below wr.heap.size wr w' ∧ b < wr.heap.size ∧ b' < wr.heap.size ∧ w'.cell? ⟨b, x, none⟩ = some (.pointer none) ∧ w'.cell? ⟨b, x + 1, none⟩ = some (.string (t)) ∧ w'.cell? ⟨b, x + 2, none⟩ = some (.int .i32 (l)) ∧ w'.cell? ⟨b, x + 3, none⟩ = some (.int .u32 0) ∧ w'.cell? ⟨b, x + 4, none⟩ = some (.int .u16 0) ∧ w'.cell? ⟨b, x + 5, none⟩ = some (.int .u8 (k)) ∧ w'.cell? ⟨b, x + 6, none⟩ = some (.int .u8 (ws)) ∧ w'.cell? ⟨b', y, none⟩ = some (.pointer none) ∧ w'.cell? ⟨b', y + 1, none⟩ = some (.string (t')) ∧ w'.cell? ⟨b', y + 2, none⟩ = some (.int .i32 (l')) ∧ w'.cell? ⟨b', y + 3, none⟩ = some (.int .u32 0) ∧ w'.cell? ⟨b', y + 4, none⟩ = some (.int .u16 0) ∧ w'.cell? ⟨b', y + 5, none⟩ = some (.int .u8 (k')) ∧ w'.cell? ⟨b', y + 6, none⟩ = some (.int .u8 (ws'))
theorem SJ.step {wr : World} {b x b' y : Nat} {t : ByteArray} {l k ws : Int} {t' : ByteArray} {l' k' ws' : Int} {w1 w2 : World} (h : SJ wr b x b' y t l k ws t' l' k' ws' w1) (hb : Below w1.heap.size w1 w2) : SJ wr b x b' y t l k ws t' l' k' ws' w2 := by
  obtain ⟨h0, h1, h2, x0, x1, x2, x3, x4, x5, x6, y0, y1, y2, y3, y4, y5, y6⟩ := h
  have e1 : b < w1.heap.size := Nat.lt_of_lt_of_le h1 h0.size
  have e2 : b' < w1.heap.size := Nat.lt_of_lt_of_le h2 h0.size
  exact ⟨h0.trans (hb.mono h0.size), h1, h2, (hb.cell e1).trans x0, (hb.cell e1).trans x1, (hb.cell e1).trans x2, (hb.cell e1).trans x3, (hb.cell e1).trans x4, (hb.cell e1).trans x5, (hb.cell e1).trans x6, (hb.cell e2).trans y0, (hb.cell e2).trans y1, (hb.cell e2).trans y2, (hb.cell e2).trans y3, (hb.cell e2).trans y4, (hb.cell e2).trans y5, (hb.cell e2).trans y6⟩
end Go.Proofs.YtnolnlekdlfeaaaDoor.ZT
