/- The four quadrants: cosine and sine of the angle, times the radius, are the signed legs. -/
import Derived.Test.YtnkpcjmmingkkaaDoorSc
import Derived.Test.YtnkpcjmmingkkaaDoorTu
import Derived.Test.YtnkpcjmmingkkaaDoorPol
namespace Go.Proofs.YtnkpcjmmingkkaaDoor.F64
open Go Go.RowKit Go.Lib Go.Proofs.YtnkpcjmmingkkaaDoor.FL
set_option linter.unusedVariables false
def Nq (x y c : Rat) : Prop := -(c * (6 / 10000000000) + 1 / 10 ^ 70) ≤ x - y ∧ x - y ≤ c * (6 / 10000000000) + 1 / 10 ^ 70
theorem quad {A B C q z : Rat} {Y : Int} {sx sy : Bool} (hA : 0 ≤ A) (hB : 0 ≤ B) (h : PL.Ang A B q) (hr : PL.Radius A B C) (he : Y % 2 = 0) (z1 : -(7855 / 10000) ≤ z) (z2 : z ≤ 7855 / 10000) (d1 : -(1 / 1000000000000) ≤ z - (th sx sy q - (Y : Rat) * PL.p4)) (d2 : z - (th sx sy q - (Y : Rat) * PL.p4) ≤ 1 / 1000000000000) :
    Nq (C * cosY (Y % 8) z) (sgn sx A) C ∧ Nq (C * sinY (Y % 8) z) (sgn sy B) C := by
  have pb := PL.p4_bd
  have q1 := h.r0
  have q2 := h.r1
  have c0 := hr.c0
  have hlt : ∀ n : Int, (n : Rat) < (Y : Rat) → n < Y := fun n hh => Rat.intCast_lt_intCast.1 hh
  have hgt : ∀ n : Int, (Y : Rat) < (n : Rat) → Y < n := fun n hh => Rat.intCast_lt_intCast.1 hh
  have i0 : (((-2 : Int)) : Rat) = -2 := by rfl
  have i1 : (((4 : Int)) : Rat) = 4 := by rfl
  have i2 : (((0 : Int)) : Rat) = 0 := by rfl
  have i3 : (((6 : Int)) : Rat) = 6 := by rfl
  have i4 : (((-4 : Int)) : Rat) = -4 := by rfl
  have i5 : (((2 : Int)) : Rat) = 2 := by rfl
  have i6 : (((-6 : Int)) : Rat) = -6 := by rfl
  have up : ∀ n : Rat, (Y : Rat) * PL.p4 < n * PL.p4 → (Y : Rat) < n := fun n hh => Rat.lt_of_mul_lt_mul_right hh (by grind)
  have dn : ∀ n : Rat, n * PL.p4 < (Y : Rat) * PL.p4 → n < (Y : Rat) := fun n hh => Rat.lt_of_mul_lt_mul_right hh (by grind)
  -- the four ways of z
  have W1 : -(1 / 1000000000000) ≤ z - q → z - q ≤ 1 / 1000000000000 → Nq (C * PL.Cv z) A C ∧ Nq (C * PL.Sv z) B C := fun e1 e2 => by
    have p := PL.polar hA hB h hr z1 z2 e1 e2
    unfold Nq
    refine ⟨⟨by grind, by grind⟩, by grind, by grind⟩
  have W2 : -(1 / 1000000000000) ≤ -z - q → -z - q ≤ 1 / 1000000000000 → Nq (C * PL.Cv z) A C ∧ Nq (C * -PL.Sv z) B C := fun e1 e2 => by
    have p := PL.polar (z := -z) hA hB h hr (by grind) (by grind) e1 e2
    rw [PL.Cv_neg, PL.Sv_neg] at p
    unfold Nq
    refine ⟨⟨by grind, by grind⟩, by grind, by grind⟩
  have W3 : -(1 / 1000000000000) ≤ z - (2 * PL.p4 - q) → z - (2 * PL.p4 - q) ≤ 1 / 1000000000000 → Nq (C * PL.Cv z) B C ∧ Nq (C * PL.Sv z) A C := fun e1 e2 => by
    have p := PL.polar hB hA h.swap hr.swap z1 z2 e1 e2
    unfold Nq
    refine ⟨⟨by grind, by grind⟩, by grind, by grind⟩
  have W4 : -(1 / 1000000000000) ≤ -z - (2 * PL.p4 - q) → -z - (2 * PL.p4 - q) ≤ 1 / 1000000000000 → Nq (C * PL.Cv z) B C ∧ Nq (C * -PL.Sv z) A C := fun e1 e2 => by
    have p := PL.polar (z := -z) hB hA h.swap hr.swap (by grind) (by grind) e1 e2
    rw [PL.Cv_neg, PL.Sv_neg] at p
    unfold Nq
    refine ⟨⟨by grind, by grind⟩, by grind, by grind⟩
  have flip : ∀ {x y : Rat}, Nq (C * x) y C → Nq (C * -x) (-y) C := fun {x y} hh => by
    unfold Nq at hh ⊢
    rw [show C * -x = -(C * x) by grind]
    constructor <;> grind
  cases sx <;> cases sy
  · -- right, above
    simp only [th, sgn, Bool.false_eq_true, if_false] at d1 d2 ⊢
    have a1 := hlt (-2) (by rw [i0]; exact dn _ (by grind))
    have a2 := hgt 4 (by rw [i1]; exact up _ (by grind))
    rcases (by omega : Y = 0 ∨ Y = 2) with rfl | rfl
    · rw [i2] at d1 d2
      exact W1 (by grind) (by grind)
    · rw [i5] at d1 d2
      have k := W4 (by grind) (by grind)
      exact ⟨k.2, k.1⟩
  · -- right, below
    simp only [th, sgn, Bool.false_eq_true, if_false, if_true] at d1 d2 ⊢
    have a1 := hlt (-4) (by rw [i4]; exact dn _ (by grind))
    have a2 := hgt 2 (by rw [i5]; exact up _ (by grind))
    rcases (by omega : Y = 0 ∨ Y = -2) with rfl | rfl
    · rw [i2] at d1 d2
      have k := W2 (by grind) (by grind)
      have f := flip k.2
      rw [show - -PL.Sv z = PL.Sv z by grind] at f
      exact ⟨k.1, f⟩
    · rw [i0] at d1 d2
      have k := W3 (by grind) (by grind)
      exact ⟨k.2, flip k.1⟩
  · -- left, above
    simp only [th, sgn, Bool.false_eq_true, if_false, if_true] at d1 d2 ⊢
    have a1 := hlt 0 (by rw [i2]; exact dn _ (by grind))
    have a2 := hgt 6 (by rw [i3]; exact up _ (by grind))
    rcases (by omega : Y = 2 ∨ Y = 4) with rfl | rfl
    · rw [i5] at d1 d2
      have k := W3 (by grind) (by grind)
      exact ⟨flip k.2, k.1⟩
    · rw [i1] at d1 d2
      have k := W2 (by grind) (by grind)
      exact ⟨flip k.1, k.2⟩
  · -- left, below
    simp only [th, sgn, if_true] at d1 d2 ⊢
    have a1 := hlt (-6) (by rw [i6]; exact dn _ (by grind))
    have a2 := hgt 0 (by rw [i2]; exact up _ (by grind))
    rcases (by omega : Y = -4 ∨ Y = -2) with rfl | rfl
    · rw [i4] at d1 d2
      have k := W1 (by grind) (by grind)
      exact ⟨flip k.1, flip k.2⟩
    · rw [i0] at d1 d2
      have k := W4 (by grind) (by grind)
      have f := flip k.2
      rw [show - -PL.Sv z = PL.Sv z by grind] at f
      exact ⟨f, flip k.1⟩
end Go.Proofs.YtnkpcjmmingkkaaDoor.F64
