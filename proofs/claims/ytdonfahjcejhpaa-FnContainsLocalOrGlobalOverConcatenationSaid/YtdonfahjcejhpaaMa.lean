/- The small functions of the laws on compound selectors. Written by gen_mga.py. -/
import Derived.Test.YtdonfahjcejhpaaProg
import Derived.Test.YtdonfahjcejhpaaTab
import Derived.WalkKit
import Derived.WalkLawsBesides
import Derived.WalkSpells
import Derived.Lib.Hide
import Derived.Handy
import Derived.IntWalk
import Derived.Outline
import Derived.Laws.Tables
import Derived.Laws.IdiomStrings
import Derived.Laws.Concat
import Derived.Laws.AppendOwn
import Derived.Deep.QuietTactic
import Derived.BigQuiet
import Derived.LoopTactic
import Derived.RegionTactic
import Derived.BigRegion
import Derived.Deep.Cut
import Derived.Deep.DeepCutAuto
import Derived.Deep.RegionHeld3
import Derived.Deep.AppendLies
import Derived.StillTactics
import Derived.WalkMore
namespace Go.Proofs.Ytdonfahjcejhpaa.MG
open Go.RowKit Go.Proofs.Ytdonfahjcejhpaa.TB
set_option linter.unusedVariables false
/-- The byte of a combinator's code. -/
def cb (c : Int) : Int := if c % 4 = 1 then 62 else if c % 4 = 2 then 43 else if c % 4 = 3 then 126 else 0
theorem cb_range (c : Int) : 0 ≤ cb c ∧ cb c ≤ 255 := by unfold cb; split <;> (try split) <;> (try split) <;> omega
set_option maxRecDepth 100000 in
theorem comb13 (c : Int) (w : World) (h0 : 0 ≤ c) (h1 : c ≤ 255) : Calls Try.prog 13 #[.int .u8 c] w fun e w' => e = .returned (.int .u8 (cb c)) ∧ w = w' := by
  by_cases e1 : c % 4 = 1
  · have E := Lib.hid (show cb c = 62 by simp [cb, e1])
    go_enter Try.func13, Try.ntmps13
    go_wp2
    go_ret
    exact ⟨by rw [E.out]; rfl, rfl⟩
  by_cases e2 : c % 4 = 2
  · have E := Lib.hid (show cb c = 43 by simp [cb, e2])
    clear e1
    go_enter Try.func13, Try.ntmps13
    go_wp2
    go_ret
    exact ⟨by rw [E.out]; rfl, rfl⟩
  by_cases e3 : c % 4 = 3
  · have E := Lib.hid (show cb c = 126 by simp [cb, e3])
    clear e1 e2
    go_enter Try.func13, Try.ntmps13
    go_wp2
    go_ret
    exact ⟨by rw [E.out]; rfl, rfl⟩
  · have E := Lib.hid (show cb c = 0 by simp [cb, e1, e2, e3])
    go_enter Try.func13, Try.ntmps13
    go_wp2
    go_ret
    exact ⟨by rw [E.out]; rfl, rfl⟩
/-- The text of a type's code. -/
def lt (t : Int) : ByteArray := ⟨#[UInt8.ofNat (97 + (t - 1) % 26).toNat]⟩
set_option maxRecDepth 100000 in
theorem letter23 (t : Int) (w : World) (h0 : 1 ≤ t) (h1 : t ≤ 255) : Calls Try.prog 23 #[.int .u8 t] w fun e w' => e = .returned (.string (lt t)) ∧ Below w.heap.size w w' := by
  have B0 := Lib.hid (fun (o : Obj) => show Below w.heap.size w (w.alloc o) from (Below.refl _ _).alloc (Nat.le_refl _) _)
  have ht2 : 0 ≤ (t - 1) % 26 ∧ (t - 1) % 26 < 26 := by omega
  have hcv : (convert 97 9 (.slice (some ⟨w.heap.size, 0, none⟩) 1 1)).run Try.prog (w.alloc (.cells #[.int .u8 (97 + (t - 1) % 26)] 5)) = .ok (.string (lt t)) (w.alloc (.cells #[.int .u8 (97 + (t - 1) % 26)] 5)) :=
    run_convert_bytes_back (P := Try.prog) _ 97 9 5 ⟨w.heap.size, 0, none⟩ 1 [UInt8.ofNat (97 + (t - 1) % 26).toNat] Try.underlying97 Try.underlying5 Try.underlying9 (fun j hj => by
      have h0 : j = 0 := by simpa using hj
      subst h0
      have h2 : ((UInt8.ofNat (97 + (t - 1) % 26).toNat).toNat : Int) = 97 + (t - 1) % 26 := by
        rw [UInt8.toNat_ofNat']; omega
      show _ = some (Value.int .u8 ((UInt8.ofNat (97 + (t - 1) % 26).toNat).toNat : Int))
      rw [h2]
      simp [go_sem])
  clear ht2
  go_enter Try.func23, Try.ntmps23
  go_wp2
  go_ret
  exact ⟨rfl, B0.out _⟩
/-- A type's name, laid. -/
def TyAt (w : World) (p : Value) (t : Int) : Prop := if t = 0 then p = .pointer none else ∃ g, p = .pointer (some ⟨g, 0, none⟩) ∧ Blk w g 76 #[.pointer none, .string (lt t), .int .i32 0, .int .i32 0, .int .u8 0]
theorem TyAt.below {w w' : World} {p : Value} {t : Int} (h : TyAt w p t) (hb : Below w.heap.size w w') : TyAt w' p t := by
  unfold TyAt at *
  split
  · rename_i e; rw [if_pos e] at h; exact h
  · rename_i e; rw [if_neg e] at h
    obtain ⟨g, e1, e2⟩ := h
    exact ⟨g, e1, e2.below hb e2.lt⟩
set_option maxRecDepth 100000 in
theorem type17 (t : Int) (w : World) (h0 : 1 ≤ t) (h1 : t ≤ 255) : Calls Try.prog 17 #[.int .u8 t] w fun e w' => ∃ g, e = .returned (.pointer (some ⟨g, 0, none⟩)) ∧ Blk w' g 76 #[.pointer none, .string (lt t), .int .i32 0, .int .i32 0, .int .u8 0] ∧ Below w.heap.size w w' := by
  go_enter Try.func17, Try.ntmps17
  go_wp2_with (go_at_call 23; refine (letter23 _ _ h0 h1).mono ?_; rintro e w1 ⟨rfl, hb⟩)
  go_ret
  exact ⟨w1.heap.size, rfl, Blk.new w1 76 _, hb.alloc hb.size _⟩
theorem info42 : (Try.prog.info? 42).map (fun i => (i.zero, i.size, i.bytes)) = some (some (.agg #[.int .i32 0]), 1, 4) := by kernel_rfl
/-- Places of nesting selectors: nothing, or a slice of that length. -/
def NsV (v : Value) (n : Nat) : Prop := ∃ a c, v = .slice a n c
set_option maxRecDepth 100000 in
theorem nest18 (n : Nat) (w : World) (hn : n ≤ 255) : Calls Try.prog 18 #[.int .i64 n] w fun e w' => ∃ v, e = .returned v ∧ NsV v n ∧ Below w.heap.size w w' := by
  by_cases h0 : n = 0
  · subst h0
    go_enter Try.func18, Try.ntmps18
    go_wp2
    go_ret
    exact ⟨_, rfl, ⟨none, 0, rfl⟩, Below.refl _ _⟩
  · have hh : ((n : Int) == 0) = false := by simp; omega
    obtain ⟨i0, hi, hz0, hz1, hz2⟩ := info_parts info42
    have hmk := run_make (P := Try.prog) w 40 42 i0 _ Try.underlying40 hi hz0 .i64 .i64 n n (by omega) (by omega) (by rw [hz2]; omega) (by omega)
    simp only [Int.toNat_natCast, hz1, Nat.mul_one] at hmk
    clear hi hz0 hz1 hz2 h0
    go_enter Try.func18, Try.ntmps18
    go_wp2
    go_ret
    exact ⟨_, rfl, ⟨_, _, rfl⟩, (Below.refl _ _).alloc (Nat.le_refl _) _⟩
theorem as_bare (W : World) (v : Value) : (Instr.typeAssert (.iface 78 v) 64 78 true).run Try.prog W = .ok (.tuple #[v, .bool true]) W := by kernel_rfl
set_option maxRecDepth 100000 in
theorem bare20 (s : ByteArray) (w : World) : Calls Try.prog 20 #[.string s] w fun e w' => ∃ g, e = .returned (.agg #[.iface 78 (.pointer (some ⟨g, 0, none⟩)), .int .i32 0, .int .i32 0]) ∧ Blk w' g 81 #[.string s, .slice none 0 0, .bool false] ∧ Below w.heap.size w w' ∧ w.heap.size ≤ g := by
  go_enter Try.func20, Try.ntmps20
  go_wp2
  refine bodyPost_ret (v := .agg #[.iface 78 (.pointer (some ⟨w.heap.size + 1, 0, none⟩)), .int .i32 0, .int .i32 0]) (by simp [results, Try.results20, go_sem]; done) rfl ?_
  exact ⟨w.heap.size + 1, rfl, by simpa using Blk.new (w.alloc (.cells #[.iface 78 (.pointer (some ⟨w.heap.size + 1, 0, none⟩)), .int .i32 0, .int .i32 0] 68)) 81 #[.string s, .slice none 0 0, .bool false], by simpa using ((Below.refl w.heap.size w).alloc (Nat.le_refl _) _).alloc (by simp) _, by omega⟩
set_option maxRecDepth 100000 in
theorem name27 (g : Nat) (s : ByteArray) (x y : Int) (w : World) (hb : Blk w g 81 #[.string s, .slice none 0 0, .bool false]) : Calls Try.prog 27 #[.agg #[.iface 78 (.pointer (some ⟨g, 0, none⟩)), .int .i32 x, .int .i32 y]] w fun e w' => e = .returned (.tuple #[.string s, .bool true]) ∧ Below w.heap.size w w' := by
  have B0 := Lib.hid (fun (o : Obj) => show Below w.heap.size w (w.alloc o) from (Below.refl _ _).alloc (Nat.le_refl _) _)
  have hlt := hb.lt
  have c0 : w.cell? ⟨g, 0, none⟩ = some (.string s) := hb.cell 0
  have ne : ¬ g = w.heap.size := by omega
  have a2 := as_bare
  clear hb
  go_enter Try.func27, Try.ntmps27
  go_wp2
  go_ret2
  exact ⟨rfl, B0.out _⟩
/-- What a bare pseudo-class is written as. -/
def dot (s : ByteArray) : ByteArray := (⟨#[46]⟩ : ByteArray) ++ s
set_option maxRecDepth 100000 in
theorem enc21 (g : Nat) (s : ByteArray) (x y : Int) (w : World) (hs : s.size ≤ 1048576) (hb : Blk w g 81 #[.string s, .slice none 0 0, .bool false]) : Calls Try.prog 21 #[.agg #[.iface 78 (.pointer (some ⟨g, 0, none⟩)), .int .i32 x, .int .i32 y]] w fun e w' => e = .returned (.string (dot s)) ∧ Below w.heap.size w w' := by
  have B0 := Lib.hid (fun (o : Obj) => show Below w.heap.size w (w.alloc o) from (Below.refl _ _).alloc (Nat.le_refl _) _)
  have A0 := Lib.hid (fun (o : Obj) => hb.alloc o)
  go_enter Try.func21, Try.ntmps21
  go_wp2_with (go_at_call 27; refine (name27 g s x y _ (A0.out _)).mono ?_; rintro e w1 ⟨rfl, hb1⟩)
  go_ret
  exact ⟨rfl, (B0.out _).trans (hb1.mono (by simp))⟩
end Go.Proofs.Ytdonfahjcejhpaa.MG
