/- The parser of n011_101: its parts. -/
import Derived.Test.YtcaiehnihgcegaaProg
import Derived.Test.YtcaiehnihgcegaaTab
import Derived.WalkKit
import Derived.WalkLawsBesides
import Derived.WalkSpells
import Derived.Lib.Hide
import Derived.Outline
import Derived.Deep.QuietTactic
import Derived.BigQuiet
import Derived.LoopTactic
import Derived.RegionTactic
import Derived.BigRegion
import Derived.Deep.Cut
import Derived.Deep.DeepCutAuto
import Derived.Laws.Tables
namespace Go.Proofs.Ytcaiehnihgcegaa.PA
open Go.RowKit Go.Proofs.Ytcaiehnihgcegaa.TB
set_option linter.unusedVariables false
theorem info59 : (Try.prog.info? 59).map (fun i => (i.zero, i.size, i.bytes)) = some (some (.agg #[.int .i32 0, .int .i32 0, .int .u16 0, .int .u8 0, .int .u8 0]), 5, 12) := by kernel_rfl
theorem info5 : (Try.prog.info? 5).map (fun i => (i.zero, i.size, i.bytes)) = some (some (.int .u8 0), 1, 1) := by kernel_rfl
theorem info21 : (Try.prog.info? 21).map (fun i => (i.zero, i.size, i.bytes)) = some (some (.int .i32 0), 1, 4) := by kernel_rfl
/-- The parser in block gp, its tokens in block g. -/
def Par (w : World) (gp g n : Nat) (c : ByteArray) (ix : Nat) (f : Nat → Nat → Value) : Prop :=
  (w.cell? ⟨gp, 16, none⟩ = some (.slice (some ⟨g, 0, none⟩) n n) ∧ w.cell? ⟨gp, 42, none⟩ = some (.int .i64 ix) ∧ w.cell? ⟨gp, 9, none⟩ = some (.string c) ∧ w.frozen? ⟨gp, 42, none⟩ = false) ∧ Tab w g 59 5 n f ∧ g < gp ∧ gp < w.heap.size
section
variable {w w' : World} {gp g n ix B : Nat} {c : ByteArray} {f : Nat → Nat → Value}
theorem Par.drew (h : Par w gp g n c ix f) (k : Nat) : Par (w.drewN k) gp g n c ix f := h
theorem Par.below (h : Par w gp g n c ix f) (hb : Below B w w') (hB : gp < B) : Par w' gp g n c ix f := by
  obtain ⟨⟨h1, h2, h3, h4⟩, h5, h6, h7⟩ := h
  refine ⟨⟨?_, ?_, ?_, ?_⟩, h5.below hb (by omega), h6, Nat.lt_of_lt_of_le h7 hb.size⟩
  · rw [hb.cell (p := ⟨gp, 16, none⟩) hB]; exact h1
  · rw [hb.cell (p := ⟨gp, 42, none⟩) hB]; exact h2
  · rw [hb.cell (p := ⟨gp, 9, none⟩) hB]; exact h3
  · rw [hb.frozen (p := ⟨gp, 42, none⟩) hB]; exact h4
theorem Par.put (h : Par w gp g n c ix f) (k : Nat) : Par (w.setCell ⟨gp, 42, none⟩ (.int .i64 k)) gp g n c k f := by
  obtain ⟨⟨h1, h2, h3, h4⟩, h5, h6, h7⟩ := h
  refine ⟨⟨?_, ?_, ?_, ?_⟩, h5.far (by show g ≠ gp; omega) _, h6, by simpa using h7⟩
  · simp [go_sem, h1]
  · simp [go_sem, h2]
  · simp [go_sem, h3]
  · simp [go_sem, h4]
end
/-- Where the cursor goes. -/
def nxt (ix n : Nat) : Nat := if ix < n then ix + 1 else ix
theorem below_drewN {B : Nat} {a w : World} (h : Below B a w) (n : Nat) : Below B a (w.drewN n) := ⟨h.os, h.tape, h.output, h.size, h.block⟩
set_option maxRecDepth 100000 in
theorem adv (gp g n ix : Nat) (c : ByteArray) (f : Nat → Nat → Value) (w : World) (hP : Par w gp g n c ix f) (hn : n ≤ 1048576) (hi : ix ≤ n) (B : Nat) (hB : B ≤ gp) :
    Calls Try.prog 30 #[.pointer (some ⟨gp, 0, none⟩)] w fun e w' => e = .returned (.tuple #[]) ∧ Par w' gp g n c (nxt ix n) f ∧ Below B w w' := by
  have HP := Lib.hid hP
  have c1 := hP.1.1
  have c2 := hP.1.2.1
  have c3 := hP.1.2.2.2
  clear hP
  by_cases h : ix < n
  · have e : nxt ix n = ix + 1 := by unfold nxt; rw [if_pos h]
    rw [e]
    clear e
    go_enter Try.func30, Try.ntmps30
    go_wp2
    go_quiet (fail)
    go_wp2
    go_end0
    exact ⟨rfl, Par.put (HP.out.drew _) (ix + 1), (below_drewN (Below.refl _ _) _).setCell hB _⟩
  · have e : nxt ix n = ix := by unfold nxt; rw [if_neg h]
    rw [e]
    clear e
    go_enter Try.func30, Try.ntmps30
    go_wp2
    go_quiet (fail)
    go_wp2
    go_end0
    exact ⟨rfl, HP.out.drew _, below_drewN (Below.refl _ _) _⟩
end Go.Proofs.Ytcaiehnihgcegaa.PA
