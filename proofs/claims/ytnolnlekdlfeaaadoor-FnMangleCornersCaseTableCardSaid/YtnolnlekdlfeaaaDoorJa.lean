/- The corners' tracker; tokens; small functions. -/
import Derived.Test.YtnolnlekdlfeaaaDoorProg
import Derived.Test.YtnolnlekdlfeaaaDoorKe
import Derived.WalkKit
import Derived.WalkLawsBesides
import Derived.WalkSpells
import Derived.Lib.Hide
import Derived.Handy
import Derived.IntWalk
import Derived.Outline
import Derived.Laws.Tables
import Derived.Laws.IdiomStrings
import Derived.Laws.IdiomCopy
import Derived.Deep.MidRow
import Derived.Deep.QuietTactic
import Derived.BigQuiet
import Derived.LoopTactic
import Derived.RegionTactic
import Derived.BigRegion
import Derived.Deep.Cut
import Derived.Deep.DeepCutAuto
import Derived.Deep.RegionHeld3
import Derived.StillTactics
import Derived.WalkMore
namespace Go.Proofs.YtnolnlekdlfeaaaDoor.ZT
open Go.RowKit Go.Proofs.YtnolnlekdlfeaaaDoor.TB
set_option linter.unusedVariables false
/-- A corner. -/
structure Cn where
  t : ByteArray
  k : Int
  t2 : ByteArray
  k2 : Int
  u : ByteArray
  st : Int
  r : Int
  b : Bool
def C0 : Cn := ⟨⟨#[]⟩, 0, ⟨#[]⟩, 0, ⟨#[]⟩, 0, 0, false⟩
def cl (x : Cn) : List Value := [.pointer none, .string x.t, .int .i32 0, .int .u32 0, .int .u16 0, .int .u8 x.k, .int .u8 0, .pointer none, .string x.t2, .int .i32 0, .int .u32 0, .int .u16 0, .int .u8 x.k2, .int .u8 0, .string x.u, .int .u8 x.st, .int .u32 x.r, .bool x.b]
def tf (S : Nat → Cn) (im : Bool) (j : Nat) : Value := if j < 72 then (cl (S (j / 18)))[j % 18]?.getD undef else .bool im
/-- The tracker lies at g. -/
def Tk (w : World) (g : Nat) (S : Nat → Cn) (im : Bool) : Prop := Tab w g 78 73 1 (fun _ j => tf S im j)
def upS (S : Nat → Cn) (k : Nat) (x : Cn) : Nat → Cn := fun i => if i = k then x else S i
section
variable {w w' : World} {g : Nat} {S : Nat → Cn} {im : Bool}
theorem Tk.cell (h : Tk w g S im) {j : Nat} (hj : j < 73) : w.cell? ⟨g, j, none⟩ = some (tf S im j) := by
  have := Tab.cell h (i := 0) (j := j) (by omega) hj
  simpa using this
theorem Tk.at (h : Tk w g S im) {k d : Nat} (hk : k < 4) (hd : d < 18) : w.cell? ⟨g, k * 18 + d, none⟩ = some ((cl (S k))[d]?.getD undef) := by
  rw [h.cell (by omega)]
  unfold tf
  rw [if_pos (by omega), show (k * 18 + d) / 18 = k by omega, show (k * 18 + d) % 18 = d by omega]
theorem Tk.imp (h : Tk w g S im) : w.cell? ⟨g, 72, none⟩ = some (.bool im) := by
  rw [h.cell (by omega)]; rfl
theorem Tk.frozen (h : Tk w g S im) (o : Nat) : w.frozen? ⟨g, o, none⟩ = false := Tab.frozen h o
theorem Tk.setIm (h : Tk w g S im) (b : Bool) : Tk (w.setCell ⟨g, 72, none⟩ (.bool b)) g S b := by
  have h1 := Tab.set h (i := 0) (j := 72) (by omega) (by omega) (.bool b)
  rw [show 0 * 73 + 72 = 72 by omega] at h1
  refine h1.ext fun i j hi hj => ?_
  unfold upd tf
  by_cases e : j = 72
  · subst e; rw [if_pos ⟨by omega, rfl⟩, if_neg (by omega)]
  · have e2 : j < 72 := by omega
    simp [e, e2]
theorem cl_len (x : Cn) : (cl x).length = 18 := rfl
theorem Tk.put (h : Tk w g S im) {k : Nat} (hk : k < 4) (x : Cn) : Tk (w.setCells g (k * 18) (cl x)) g (upS S k x) im := by
  have h1 := Tab.setCells (cl x) (k * 18) h (i := 0) (by omega) (by rw [cl_len]; omega)
  rw [Nat.zero_mul, Nat.zero_add] at h1
  refine h1.ext fun i j hi hj => ?_
  rw [cl_len]
  unfold tf upS
  by_cases e : k * 18 ≤ j ∧ j < k * 18 + 18
  · rw [if_pos ⟨by omega, e⟩, if_pos (by omega), show j / 18 = k by omega, if_pos rfl, show j % 18 = j - k * 18 by omega]
  · rw [if_neg (fun h => e h.2)]
    by_cases e2 : j < 72
    · rw [if_pos e2, if_pos e2, if_neg (by omega)]
    · rw [if_neg e2, if_neg e2]
/-- The cells of four empty corners. -/
def zl : List Value := cl C0 ++ cl C0 ++ cl C0 ++ cl C0
theorem zl_at (a b : Nat) (ha : a < 4) (hb : b < 18) : zl[a * 18 + b]?.getD undef = (cl C0)[b]?.getD undef := by
  rcases (by omega : a = 0 ∨ a = 1 ∨ a = 2 ∨ a = 3) with rfl | rfl | rfl | rfl
  all_goals
    rcases (by omega : b = 0 ∨ b = 1 ∨ b = 2 ∨ b = 3 ∨ b = 4 ∨ b = 5 ∨ b = 6 ∨ b = 7 ∨ b = 8 ∨ b = 9 ∨ b = 10 ∨ b = 11 ∨ b = 12 ∨ b = 13 ∨ b = 14 ∨ b = 15 ∨ b = 16 ∨ b = 17) with rfl | rfl | rfl | rfl | rfl | rfl | rfl | rfl | rfl | rfl | rfl | rfl | rfl | rfl | rfl | rfl | rfl | rfl
    all_goals rfl
theorem Tk.reset (h : Tk w g S im) : Tk (w.setCells g 0 zl) g (fun _ => C0) im := by
  have h1 := Tab.setCells zl 0 h (i := 0) (by omega) (by decide)
  rw [Nat.zero_mul, Nat.zero_add] at h1
  refine h1.ext fun i j hi hj => ?_
  unfold tf
  by_cases e : j < 72
  · rw [if_pos ⟨by omega, by omega, by show j < 0 + 72; omega⟩, if_pos e, Nat.sub_zero]
    have hz := zl_at (j / 18) (j % 18) (by omega) (by omega)
    rw [show j / 18 * 18 + j % 18 = j by omega] at hz
    exact hz
  · have hl : zl.length = 72 := rfl
    rw [if_neg (by rintro ⟨-, -, h⟩; omega), if_neg e, if_neg e]
end
/-- The tokens of the codes 0 to 4. -/
def kdT (c : Int) : Int := if c = 3 then 30 else 34
def txT (c : Int) : ByteArray := if c = 0 then ⟨#[49, 37]⟩ else if c = 1 then ⟨#[50, 37]⟩ else if c = 2 then ⟨#[51, 37]⟩ else if c = 3 then ⟨#[48]⟩ else ⟨#[53, 48, 37]⟩
set_option maxRecDepth 100000 in
set_option maxHeartbeats 2000000 in
theorem tok16 (c : Int) (w : World) (h0 : 0 ≤ c) (h1 : c < 5) : Calls Tryd.prog 16 #[.int .u8 c] w fun e w' => e = .returned (.agg #[.pointer none, .string (txT c), .int .i32 0, .int .u32 0, .int .u16 0, .int .u8 (kdT c), .int .u8 0]) ∧ Below w.heap.size w w' := by
  have B0 := Lib.hid (fun (o : Obj) => show Below w.heap.size w (w.alloc o) from (Below.refl _ _).alloc (Nat.le_refl _) _)
  rcases (by omega : c = 0 ∨ c = 1 ∨ c = 2 ∨ c = 3 ∨ c = 4) with rfl | rfl | rfl | rfl | rfl
  · go_enter Tryd.func16, Tryd.ntmps16
    go_wp2
    refine bodyPost_ret (v := .agg #[.pointer none, .string ⟨#[49, 37]⟩, .int .i32 0, .int .u32 0, .int .u16 0, .int .u8 34, .int .u8 0]) (by simp [results, Tryd.results16, go_sem]; done) rfl ⟨rfl, ?_⟩
    exact B0.out _
  · go_enter Tryd.func16, Tryd.ntmps16
    go_wp2
    refine bodyPost_ret (v := .agg #[.pointer none, .string ⟨#[50, 37]⟩, .int .i32 0, .int .u32 0, .int .u16 0, .int .u8 34, .int .u8 0]) (by simp [results, Tryd.results16, go_sem]; done) rfl ⟨rfl, ?_⟩
    exact B0.out _
  · go_enter Tryd.func16, Tryd.ntmps16
    go_wp2
    refine bodyPost_ret (v := .agg #[.pointer none, .string ⟨#[51, 37]⟩, .int .i32 0, .int .u32 0, .int .u16 0, .int .u8 34, .int .u8 0]) (by simp [results, Tryd.results16, go_sem]; done) rfl ⟨rfl, ?_⟩
    exact B0.out _
  · go_enter Tryd.func16, Tryd.ntmps16
    go_wp2
    refine bodyPost_ret (v := .agg #[.pointer none, .string ⟨#[48]⟩, .int .i32 0, .int .u32 0, .int .u16 0, .int .u8 30, .int .u8 0]) (by simp [results, Tryd.results16, go_sem]; done) rfl ⟨rfl, ?_⟩
    exact B0.out _
  · go_enter Tryd.func16, Tryd.ntmps16
    go_wp2
    refine bodyPost_ret (v := .agg #[.pointer none, .string ⟨#[53, 48, 37]⟩, .int .i32 0, .int .u32 0, .int .u16 0, .int .u8 34, .int .u8 0]) (by simp [results, Tryd.results16, go_sem]; done) rfl ⟨rfl, ?_⟩
    exact B0.out _
set_option maxRecDepth 100000 in
set_option maxHeartbeats 2000000 in
theorem tok16i (w : World) : Calls Tryd.prog 16 #[.int .u8 6] w fun e w' => e = .returned (.agg #[.pointer none, .string ⟨#[97, 117, 116, 111]⟩, .int .i32 0, .int .u32 0, .int .u16 0, .int .u8 29, .int .u8 0]) ∧ Below w.heap.size w w' := by
  have B0 := Lib.hid (fun (o : Obj) => show Below w.heap.size w (w.alloc o) from (Below.refl _ _).alloc (Nat.le_refl _) _)
  go_enter Tryd.func16, Tryd.ntmps16
  go_wp2
  refine bodyPost_ret (v := .agg #[.pointer none, .string ⟨#[97, 117, 116, 111]⟩, .int .i32 0, .int .u32 0, .int .u16 0, .int .u8 29, .int .u8 0]) (by simp [results, Tryd.results16, go_sem]; done) rfl ⟨rfl, ?_⟩
  exact B0.out _
set_option maxRecDepth 100000 in
theorem num24 (k : Int) (w : World) : Calls Tryd.prog 24 #[.int .u8 k] w fun e w' => e = .returned (.bool (k == 30 || (k == 34 || k == 26))) ∧ w = w' := by
  cases h1 : (k == 30) <;> cases h2 : (k == 34) <;> cases h3 : (k == 26)
  all_goals
    go_enter Tryd.func24, Tryd.ntmps24
    go_wp2
    go_ret
    exact ⟨by simp, rfl⟩
end Go.Proofs.YtnolnlekdlfeaaaDoor.ZT
