/- The corners: tracker. -/
import Derived.Test.YtnolnlekdlfeaaaProg
import Derived.Test.YtnolnlekdlfeaaaKe
import Derived.WalkKit
import Derived.WalkLawsBesides
import Derived.WalkSpells
import Derived.Lib.Hide
import Derived.Handy
import Derived.IntWalk
import Derived.Outline
import Derived.Laws.Tables
import Derived.Laws.IdiomStrings
import Derived.Laws.IdiomCopy
import Derived.Deep.MidRow
import Derived.Deep.QuietTactic
import Derived.BigQuiet
import Derived.LoopTactic
import Derived.RegionTactic
import Derived.BigRegion
import Derived.Deep.Cut
import Derived.Deep.DeepCutAuto
import Derived.Deep.RegionHeld3
import Derived.StillTactics
import Derived.WalkMore
import Derived.Deep.RegionLaw
import Derived.StillTailTactics
import Derived.Deep.CutBlock
namespace Go.Proofs.Ytnolnlekdlfeaaa.ZT
open Go.RowKit Go.Proofs.Ytnolnlekdlfeaaa.TB
set_option linter.unusedVariables false
/-- A corner. -/
structure Cn where
  t : ByteArray
  k : Int
  t2 : ByteArray
  k2 : Int
  u : ByteArray
  st : Int
  r : Int
  b : Bool
def C0 : Cn := ⟨⟨#[]⟩, 0, ⟨#[]⟩, 0, ⟨#[]⟩, 0, 0, false⟩
def cl (x : Cn) : List Value := [.pointer none, .string x.t, .int .i32 0, .int .u32 0, .int .u16 0, .int .u8 x.k, .int .u8 0, .pointer none, .string x.t2, .int .i32 0, .int .u32 0, .int .u16 0, .int .u8 x.k2, .int .u8 0, .string x.u, .int .u8 x.st, .int .u32 x.r, .bool x.b]
def tf (S : Nat → Cn) (im : Bool) (j : Nat) : Value := if j < 72 then (cl (S (j / 18)))[j % 18]?.getD undef else .bool im
/-- The tracker lies at g. -/
def Tk (w : World) (g : Nat) (S : Nat → Cn) (im : Bool) : Prop := Tab w g 70 73 1 (fun _ j => tf S im j)
def upS (S : Nat → Cn) (k : Nat) (x : Cn) : Nat → Cn := fun i => if i = k then x else S i
section
variable {w w' : World} {g : Nat} {S : Nat → Cn} {im : Bool}
theorem Tk.cell (h : Tk w g S im) {j : Nat} (hj : j < 73) : w.cell? ⟨g, j, none⟩ = some (tf S im j) := by
  have := Tab.cell h (i := 0) (j := j) (by omega) hj
  simpa using this
theorem Tk.at (h : Tk w g S im) {k d : Nat} (hk : k < 4) (hd : d < 18) : w.cell? ⟨g, k * 18 + d, none⟩ = some ((cl (S k))[d]?.getD undef) := by
  rw [h.cell (by omega)]
  unfold tf
  rw [if_pos (by omega), show (k * 18 + d) / 18 = k by omega, show (k * 18 + d) % 18 = d by omega]
theorem Tk.imp (h : Tk w g S im) : w.cell? ⟨g, 72, none⟩ = some (.bool im) := by
  rw [h.cell (by omega)]; rfl
theorem Tk.frozen (h : Tk w g S im) (o : Nat) : w.frozen? ⟨g, o, none⟩ = false := Tab.frozen h o
theorem Tk.setIm (h : Tk w g S im) (b : Bool) : Tk (w.setCell ⟨g, 72, none⟩ (.bool b)) g S b := by
  have h1 := Tab.set h (i := 0) (j := 72) (by omega) (by omega) (.bool b)
  rw [show 0 * 73 + 72 = 72 by omega] at h1
  refine h1.ext fun i j hi hj => ?_
  unfold upd tf
  by_cases e : j = 72
  · subst e; rw [if_pos ⟨by omega, rfl⟩, if_neg (by omega)]
  · have e2 : j < 72 := by omega
    simp [e, e2]
theorem cl_len (x : Cn) : (cl x).length = 18 := rfl
theorem Tk.put (h : Tk w g S im) {k : Nat} (hk : k < 4) (x : Cn) : Tk (w.setCells g (k * 18) (cl x)) g (upS S k x) im := by
  have h1 := Tab.setCells (cl x) (k * 18) h (i := 0) (by omega) (by rw [cl_len]; omega)
  rw [Nat.zero_mul, Nat.zero_add] at h1
  refine h1.ext fun i j hi hj => ?_
  rw [cl_len]
  unfold tf upS
  by_cases e : k * 18 ≤ j ∧ j < k * 18 + 18
  · rw [if_pos ⟨by omega, e⟩, if_pos (by omega), show j / 18 = k by omega, if_pos rfl, show j % 18 = j - k * 18 by omega]
  · rw [if_neg (fun h => e h.2)]
    by_cases e2 : j < 72
    · rw [if_pos e2, if_pos e2, if_neg (by omega)]
    · rw [if_neg e2, if_neg e2]
/-- The cells of four empty corners. -/
def zl : List Value := cl C0 ++ cl C0 ++ cl C0 ++ cl C0
theorem zl_at (a b : Nat) (ha : a < 4) (hb : b < 18) : zl[a * 18 + b]?.getD undef = (cl C0)[b]?.getD undef := by
  rcases (by omega : a = 0 ∨ a = 1 ∨ a = 2 ∨ a = 3) with rfl | rfl | rfl | rfl
  all_goals
    rcases (by omega : b = 0 ∨ b = 1 ∨ b = 2 ∨ b = 3 ∨ b = 4 ∨ b = 5 ∨ b = 6 ∨ b = 7 ∨ b = 8 ∨ b = 9 ∨ b = 10 ∨ b = 11 ∨ b = 12 ∨ b = 13 ∨ b = 14 ∨ b = 15 ∨ b = 16 ∨ b = 17) with rfl | rfl | rfl | rfl | rfl | rfl | rfl | rfl | rfl | rfl | rfl | rfl | rfl | rfl | rfl | rfl | rfl | rfl
    all_goals rfl
theorem Tk.reset (h : Tk w g S im) : Tk (w.setCells g 0 zl) g (fun _ => C0) im := by
  have h1 := Tab.setCells zl 0 h (i := 0) (by omega) (by decide)
  rw [Nat.zero_mul, Nat.zero_add] at h1
  refine h1.ext fun i j hi hj => ?_
  unfold tf
  by_cases e : j < 72
  · rw [if_pos ⟨by omega, by omega, by show j < 0 + 72; omega⟩, if_pos e, Nat.sub_zero]
    have hz := zl_at (j / 18) (j % 18) (by omega) (by omega)
    rw [show j / 18 * 18 + j % 18 = j by omega] at hz
    exact hz
  · have hl : zl.length = 72 := rfl
    rw [if_neg (by rintro ⟨-, -, h⟩; omega), if_neg e, if_neg e]
end
theorem Tk.zero {w : World} {g : Nat} (h : Blk w g 70 (zl ++ [Value.bool false]).toArray) : Tk w g (fun _ => C0) false := by
  refine ⟨_, h, rfl, fun i j hi hj => ?_⟩
  obtain rfl : i = 0 := by omega
  rw [Nat.zero_mul, Nat.zero_add]
  show _ = some (tf (fun _ => C0) false j)
  unfold tf
  have hl : zl.length = 72 := rfl
  by_cases e : j < 72
  · rw [if_pos e]
    have hz := zl_at (j / 18) (j % 18) (by omega) (by omega)
    rw [show j / 18 * 18 + j % 18 = j by omega] at hz
    rw [← hz]
    have h1 : (zl ++ [Value.bool false]).toArray[j]? = zl[j]? := by
      rw [List.getElem?_toArray, List.getElem?_append_left (by omega)]
    rw [h1, List.getElem?_eq_getElem (by omega)]
    rfl
  · obtain rfl : j = 72 := by omega
    rfl
theorem Tk.below {w w' : World} {g : Nat} {S : Nat → Cn} {im : Bool} (h : Tk w g S im) (hb : Below w.heap.size w w') : Tk w' g S im := Tab.below h hb (Tab.lt h)
theorem Tk.alloc {w : World} {g : Nat} {S : Nat → Cn} {im : Bool} (h : Tk w g S im) (o : Obj) : Tk (w.alloc o) g S im := Tab.alloc h o
theorem Tk.lt {w : World} {g : Nat} {S : Nat → Cn} {im : Bool} (h : Tk w g S im) : g < w.heap.size := Tab.lt h
set_option maxRecDepth 100000 in
theorem comp16e (g : Nat) (S : Nat → Cn) (im mw : Bool) (A : Option Addr) (n c : Nat) (ks kl : Int) (w : World) (ht : Tk w g S im) (h : (S 0).k = 0 ∨ (S 1).k = 0 ∨ (S 2).k = 0 ∨ (S 3).k = 0) :
    Calls Try.prog 16 #[.pointer (some ⟨g, 0, none⟩), .slice A n c, .agg #[.int .i32 ks, .int .i32 kl], .bool mw] w fun e w' => e = .returned (.tuple #[]) ∧ Below w.heap.size w w' := by
  have B0 := Lib.hid (fun (o : Obj) => show Below w.heap.size w (w.alloc o) from (Below.refl _ _).alloc (Nat.le_refl _) _)
  have c0 : w.cell? ⟨g, 5, none⟩ = some (.int .u8 (S 0).k) := ht.at (k := 0) (d := 5) (by omega) (by omega)
  have c1 : w.cell? ⟨g, 23, none⟩ = some (.int .u8 (S 1).k) := ht.at (k := 1) (d := 5) (by omega) (by omega)
  have c2 : w.cell? ⟨g, 41, none⟩ = some (.int .u8 (S 2).k) := ht.at (k := 2) (d := 5) (by omega) (by omega)
  have c3 : w.cell? ⟨g, 59, none⟩ = some (.int .u8 (S 3).k) := ht.at (k := 3) (d := 5) (by omega) (by omega)
  have hlt := ht.lt
  have ne : ¬ g = w.heap.size := by omega
  generalize (S 0).k = k0 at *
  generalize (S 1).k = k1 at *
  generalize (S 2).k = k2 at *
  generalize (S 3).k = k3 at *
  clear ht
  cases e0 : (k0 == 0) <;> cases e1 : (k1 == 0) <;> cases e2 : (k2 == 0) <;> cases e3 : (k3 == 0)
  case false.false.false.false => simp at e0 e1 e2 e3; omega
  all_goals
    clear h
    go_enter Try.func16, Try.ntmps16
    go_wp2
    first
      | refine bodyPost_end (results_none rfl _ _ _) rfl ?_
      | refine bodyPost_ret (results_none rfl _ _ _) rfl ?_
    exact ⟨rfl, B0.out _⟩
theorem cl_one (x : Cn) : ∀ v ∈ cl x, v.oneCell' = true := by
  intro v hv
  simp only [cl, List.mem_cons, List.not_mem_nil, or_false] at hv
  rcases hv with rfl | rfl | rfl | rfl | rfl | rfl | rfl | rfl | rfl | rfl | rfl | rfl | rfl | rfl | rfl | rfl | rfl | rfl
  all_goals rfl
theorem Tk.range {w : World} {g k : Nat} {S : Nat → Cn} {im : Bool} (h : Tk w g S im) (hk : k < 4) : w.rangeAt g (k * 18) (cl (S k)) := by
  intro j v hj
  have hl := (List.getElem?_eq_some_iff.1 hj).1
  rw [cl_len] at hl
  rw [h.at hk hl, hj]; rfl
theorem Tk.there {w : World} {g k : Nat} {S : Nat → Cn} {im : Bool} (h : Tk w g S im) (hk : k < 4) : w.there g (k * 18) 18 := by
  intro j hj
  exact ⟨by rw [h.at hk hj]; rfl, h.frozen _⟩
section
variable {P : Program}
theorem still_load_mid {ops : Array Oper} {o : Oper} {a : Act} {w : World} {K : Act → Prop} {E : Prop} (hgd : o.guard = none) (ty : TypeId) (x : Operand) (ho : o.op = .load ty x)
    (b off : Nat) (hx : a.eval x = .pointer (some ⟨b, off, none⟩)) (cs : List Value) (d : TypeDesc) (hc : w.rangeAt b off cs)
    (hu : P.underlying ty = some d) (hd : d.isRow = true) (hi : (P.info? ty).map (·.size) = some cs.length)
    (h : K (a.put o.dst (.agg cs.toArray))) : if Region.wanted o (yielded ops a.tmps) = true then o.still P a w K else E := by
  have hw : Region.wanted o (yielded ops a.tmps) = true := by simp [Region.wanted, hgd]
  rw [if_pos hw]
  unfold Oper.still execOp
  simp only [ho, hx, run_loadAt_mid w b off ty cs d hc hu hd hi, Sem.run_bind, Sem.run_pure, Result.andThen_ok]
  simpa [Oper.stillUpon] using h
end
theorem heap_setCells (w : World) (b : Nat) (vs : List Value) : ∀ (o k : Nat), k ≠ b → (w.setCells b o vs).heap[k]? = w.heap[k]? := by
  induction vs generalizing w with
  | nil => intro o k h; rfl
  | cons v r ih => intro o k h; rw [World.setCells, ih _ _ _ h]; exact Below.heap_setCell w _ v k h
theorem below_setCells {B : Nat} {a w : World} (h : Below B a w) {b : Nat} (hb : B ≤ b) (vs : List Value) : ∀ o, Below B a (w.setCells b o vs) := by
  induction vs generalizing w with
  | nil => intro o; exact h
  | cons v r ih => intro o; exact ih (h.setCell hb v) (o + 1)
theorem kept_setCells {B g : Nat} {a w : World} (h : Kept B g a w) (vs : List Value) : ∀ o, Kept B g a (w.setCells g o vs) := by
  induction vs generalizing w with
  | nil => intro o; exact h
  | cons v r ih => intro o; exact ih (h.setCell o v) (o + 1)
theorem sto {w : World} {b o : Nat} {D : List Value} (ht : w.there b o D.length) (h1 : ∀ v ∈ D, v.oneCell' = true) : (storeCells ⟨b, o, none⟩ D).run Try.prog w = .ok () (w.setCells b o D) := by
  have this := run_storeCells_cells (P := Try.prog) b o D 0 w (fun j hj => by simpa using (ht j hj).1) (fun j hj => by simpa using (ht j hj).2) h1
  simpa using this
theorem blk_there {w : World} {b : Nat} {t : TypeId} {cs : Array Value} {n : Nat} (h : Blk w b t cs) (hn : n ≤ cs.size) : w.there b 0 n := by
  intro j hj
  rw [Nat.zero_add]
  exact ⟨by rw [h.cell, Array.getElem?_eq_getElem (by omega)]; rfl, h.frozen _⟩
end Go.Proofs.Ytnolnlekdlfeaaa.ZT
