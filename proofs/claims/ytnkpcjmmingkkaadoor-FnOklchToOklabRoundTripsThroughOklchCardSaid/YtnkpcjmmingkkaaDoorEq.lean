/- Float words up to the choice of a NaN, and the step of the walk at a float operation. Of no program. -/
import Derived.Test.YtnkpcjmmingkkaaDoorAny
namespace Go.Proofs.YtnkpcjmmingkkaaDoor.F64
open Go.RowKit
/-- The NaN that stands for all. -/
def NQ : Nat := 9221120237041090561
theorem nq_nan : IsNaN NQ := by unfold IsNaN NQ; decide
/-- The same word, or two NaNs. -/
def Eqv (a b : Nat) : Prop := a = b ∨ (IsNaN a ∧ IsNaN b)
theorem Eqv.refl (a : Nat) : Eqv a a := .inl rfl
theorem Eqv.symm {a b : Nat} (h : Eqv a b) : Eqv b a := h.imp Eq.symm And.symm
theorem Eqv.trans {a b c : Nat} (h : Eqv a b) (k : Eqv b c) : Eqv a c := by
  rcases h with rfl | ⟨h1, h2⟩
  · exact k
  · rcases k with rfl | ⟨-, k2⟩
    · exact .inr ⟨h1, h2⟩
    · exact .inr ⟨h1, k2⟩
theorem Eqv.eq {a b : Nat} (h : Eqv a b) (hb : ¬ IsNaN b) : a = b := h.resolve_right fun k => hb k.2
/-- An operation, with one NaN for all. -/
def fop (op : BinOp) (x y : Nat) : Nat := (floatBits op .f64 x y).getD NQ
def Ar (op : BinOp) : Prop := op = .add ∨ op = .sub ∨ op = .mul ∨ op = .quo
theorem nan_op {op : BinOp} (hop : Ar op) {x y : Nat} (h : IsNaN x ∨ IsNaN y) : floatBits op .f64 x y = none := by
  rcases h with h | h
  · obtain ⟨s, t, e⟩ := nan_read h
    rcases hop with rfl | rfl | rfl | rfl
    · show Ieee.double.add x y = _; unfold Ieee.Format.add; rw [e]; rfl
    · show Ieee.double.sub x y = _; unfold Ieee.Format.sub; rw [e]; rfl
    · show Ieee.double.mul x y = _; unfold Ieee.Format.mul; rw [e]; rfl
    · show Ieee.double.div x y = _; unfold Ieee.Format.div; rw [e]; rfl
  · obtain ⟨s, t, e⟩ := nan_read h
    rcases hop with rfl | rfl | rfl | rfl
    · show Ieee.double.add x y = _; unfold Ieee.Format.add; rw [e]; cases Ieee.double.read x <;> rfl
    · show Ieee.double.sub x y = _; unfold Ieee.Format.sub; rw [e]; cases Ieee.double.read x <;> rfl
    · show Ieee.double.mul x y = _; unfold Ieee.Format.mul; rw [e]; cases Ieee.double.read x <;> rfl
    · show Ieee.double.div x y = _; unfold Ieee.Format.div; rw [e]; cases Ieee.double.read x <;> rfl
theorem res_fop {op : BinOp} {x y z : Nat} (h : Res op x y z) : Eqv z (fop op x y) := by
  unfold fop
  rcases h with h | ⟨h, hn⟩
  · rw [h]; exact .inl rfl
  · rw [h]; exact .inr ⟨hn, nq_nan⟩
theorem fop_res (op : BinOp) (x y : Nat) : Res op x y (fop op x y) := by
  unfold fop
  cases h : floatBits op .f64 x y with
  | some z => exact .inl h
  | none => exact .inr ⟨h, nq_nan⟩
theorem fop_congr {op : BinOp} (hop : Ar op) {x x' y y' : Nat} (hx : Eqv x x') (hy : Eqv y y') : Eqv (fop op x y) (fop op x' y') := by
  rcases hx with rfl | ⟨h1, h2⟩
  · rcases hy with rfl | ⟨h1, h2⟩
    · exact .inl rfl
    · unfold fop; rw [nan_op hop (.inr h1), nan_op hop (.inr h2)]; exact .inl rfl
  · unfold fop; rw [nan_op hop (.inl h1), nan_op hop (.inl h2)]; exact .inl rfl
theorem run_fop {P : Program} (op : BinOp) (hop : Ar op) (x y : Nat) (t : TypeId) (w : World) :
    ∃ z k, (binOp op t (.float .f64 x) (.float .f64 y)).run P w = .ok (.float .f64 z) (w.drewN k) ∧ Eqv z (fop op x y) := by
  cases h : floatBits op .f64 x y with
  | some z => exact ⟨z, 0, run_float_arith w op t .f64 x y z h, res_fop (.inl h)⟩
  | none => exact ⟨_, 1, run_nz op hop x y h t w, res_fop (.inr ⟨h, nz_nan w x y⟩)⟩
theorem drewN_add (w : World) (a b : Nat) : (w.drewN a).drewN b = w.drewN (a + b) := by
  unfold World.drewN
  simp [Nat.add_assoc]
/-- At a float operation: one way on, whatever the operands. -/
theorem wpList_fop {P : Program} {ops : Array Oper} {rest : List Oper} {o : Oper} {a : Act} {Q : Exit → Act → World → Prop} {w : World} {m : Nat} (hgd : o.guard = none) (op : BinOp) (t t2 : TypeId) (s1 s2 : Operand) (ho : o.op = .binOp op t s1 s2 t2) (hop : Ar op)
    (x y x' y' : Nat) (h1 : a.eval s1 = .float .f64 x) (h2 : a.eval s2 = .float .f64 y) (e1 : Eqv x x') (e2 : Eqv y y')
    (h : ∀ z m', Eqv z (fop op x' y') → wpList P ops Q rest (a.put o.dst (.float .f64 z)) (w.drewN m')) : wpList P ops Q (o :: rest) a (w.drewN m) := by
  refine wpList_plain hgd fun K hK => ?_
  obtain ⟨z, k, hr, hz⟩ := run_fop (P := P) op hop x y t (w.drewN m)
  unfold Oper.wp execOp
  have he : Sem.run P (eqGuard op t s1 s2 (.float .f64 x) (.float .f64 y)) (w.drewN m) = Result.ok () (w.drewN m) := by
    rcases hop with rfl | rfl | rfl | rfl <;> rfl
  simp only [ho, h1, h2, Sem.run_bind, he, Result.andThen_ok, hr, drewN_add, Sem.run_pure]
  exact hK _ _ (h z _ (hz.trans (fop_congr hop e1 e2)))
end Go.Proofs.YtnkpcjmmingkkaaDoor.F64
