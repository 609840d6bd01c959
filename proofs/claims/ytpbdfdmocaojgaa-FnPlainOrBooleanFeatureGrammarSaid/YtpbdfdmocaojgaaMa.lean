/- lowerMediaRange of n011_189. -/
import Derived.Test.YtpbdfdmocaojgaaProg
import Derived.Test.YtpbdfdmocaojgaaTab
import Derived.WalkKit
import Derived.WalkLawsBesides
import Derived.WalkSpells
import Derived.Lib.Hide
import Derived.Outline
import Derived.Laws.Tables
import Derived.Deep.QuietTactic
import Derived.BigQuiet
import Derived.LoopTactic
import Derived.RegionTactic
import Derived.BigRegion
import Derived.Deep.Cut
import Derived.Deep.DeepCutAuto
import Derived.Deep.RegionHeld3
namespace Go.Proofs.Ytpbdfdmocaojgaa.MA
open Go.RowKit Go.Proofs.Ytpbdfdmocaojgaa.TB
set_option linter.unusedVariables false
theorem Blk.new' {w : World} {t g : Nat} {cs : Array Value} (h : g = w.heap.size) : Blk (w.alloc (.cells cs t)) g t cs := by subst h; exact Blk.new w t cs
def minS : ByteArray := ⟨#[109, 105, 110, 45]⟩
def maxS : ByteArray := ⟨#[109, 97, 120, 45]⟩
/-- A plain feature in block g. -/
def PlainP (st : Int) (nm : ByteArray) (v : Value) (w : World) (e : Ending) (w' : World) : Prop :=
  ∃ g, e = .returned (.agg #[.int .i32 st, .iface 39 (.pointer (some ⟨g, 0, none⟩))]) ∧ Blk w' g 45 #[.string nm, v] ∧ Below w.heap.size w w'
/-- A negated plain feature. -/
def NotP (st : Int) (nm : ByteArray) (v : Value) (w : World) (e : Ending) (w' : World) : Prop :=
  ∃ g g', e = .returned (.agg #[.int .i32 st, .iface 62 (.pointer (some ⟨g', 0, none⟩))]) ∧ Blk w' g' 64 #[.int .i32 st, .iface 39 (.pointer (some ⟨g, 0, none⟩))] ∧ Blk w' g 45 #[.string nm, v] ∧ Below w.heap.size w w'
set_option maxRecDepth 100000 in
set_option maxHeartbeats 1000000 in
theorem low3 (st : Int) (nm : ByteArray) (A : Option Addr) (n c : Nat) (w : World) (hn : nm.size ≤ 1048576) :
    Calls Try.prog 18 #[.agg #[.int .i32 st], .string nm, .int .u8 3, .slice A n c] w (PlainP st (maxS ++ nm) (.slice A n c) w) := by
  have q : ¬ 9223372036854775807 < 4 + nm.size := by omega
  go_enter Try.func18, Try.ntmps18
  go_wp2
  refine bodyPost_ret (v := .agg #[.int .i32 st, .iface 39 (.pointer (some ⟨w.heap.size + 1 + 1, 0, none⟩))]) (by simp [results, Try.results18, go_sem]) rfl ⟨w.heap.size + 1 + 1, rfl, ?_, ?_⟩
  · exact Blk.new' (by simp)
  · exact (((Below.refl _ _).alloc (Nat.le_refl _) _).alloc (by simp) _).alloc (by simp; omega) _
set_option maxRecDepth 100000 in
set_option maxHeartbeats 1000000 in
theorem low5 (st : Int) (nm : ByteArray) (A : Option Addr) (n c : Nat) (w : World) (hn : nm.size ≤ 1048576) :
    Calls Try.prog 18 #[.agg #[.int .i32 st], .string nm, .int .u8 5, .slice A n c] w (PlainP st (minS ++ nm) (.slice A n c) w) := by
  have q : ¬ 9223372036854775807 < 4 + nm.size := by omega
  go_enter Try.func18, Try.ntmps18
  go_wp2
  refine bodyPost_ret (v := .agg #[.int .i32 st, .iface 39 (.pointer (some ⟨w.heap.size + 1 + 1, 0, none⟩))]) (by simp [results, Try.results18, go_sem]) rfl ⟨w.heap.size + 1 + 1, rfl, ?_, ?_⟩
  · exact Blk.new' (by simp)
  · exact (((Below.refl _ _).alloc (Nat.le_refl _) _).alloc (by simp) _).alloc (by simp; omega) _
set_option maxRecDepth 100000 in
set_option maxHeartbeats 1000000 in
theorem low2 (st : Int) (nm : ByteArray) (A : Option Addr) (n c : Nat) (w : World) (hn : nm.size ≤ 1048576) :
    Calls Try.prog 18 #[.agg #[.int .i32 st], .string nm, .int .u8 2, .slice A n c] w (NotP st (minS ++ nm) (.slice A n c) w) := by
  have q : ¬ 9223372036854775807 < 4 + nm.size := by omega
  go_enter Try.func18, Try.ntmps18
  go_wp2
  refine bodyPost_ret (v := .agg #[.int .i32 st, .iface 62 (.pointer (some ⟨w.heap.size + 1 + 1 + 1, 0, none⟩))]) (by simp [results, Try.results18, go_sem]) rfl ⟨w.heap.size + 1 + 1, w.heap.size + 1 + 1 + 1, rfl, ?_, ?_, ?_⟩
  · exact Blk.new' (by simp)
  · exact (Blk.new' (by simp)).alloc _
  · exact ((((Below.refl _ _).alloc (Nat.le_refl _) _).alloc (by simp) _).alloc (by simp; omega) _).alloc (by simp; omega) _
set_option maxRecDepth 100000 in
set_option maxHeartbeats 1000000 in
theorem low4 (st : Int) (nm : ByteArray) (A : Option Addr) (n c : Nat) (w : World) (hn : nm.size ≤ 1048576) :
    Calls Try.prog 18 #[.agg #[.int .i32 st], .string nm, .int .u8 4, .slice A n c] w (NotP st (maxS ++ nm) (.slice A n c) w) := by
  have q : ¬ 9223372036854775807 < 4 + nm.size := by omega
  go_enter Try.func18, Try.ntmps18
  go_wp2
  refine bodyPost_ret (v := .agg #[.int .i32 st, .iface 62 (.pointer (some ⟨w.heap.size + 1 + 1 + 1, 0, none⟩))]) (by simp [results, Try.results18, go_sem]) rfl ⟨w.heap.size + 1 + 1, w.heap.size + 1 + 1 + 1, rfl, ?_, ?_, ?_⟩
  · exact Blk.new' (by simp)
  · exact (Blk.new' (by simp)).alloc _
  · exact ((((Below.refl _ _).alloc (Nat.le_refl _) _).alloc (by simp) _).alloc (by simp; omega) _).alloc (by simp; omega) _
end Go.Proofs.Ytpbdfdmocaojgaa.MA
