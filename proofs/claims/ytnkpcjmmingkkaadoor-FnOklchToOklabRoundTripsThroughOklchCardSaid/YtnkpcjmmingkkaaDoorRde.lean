/- The reduction exists, and the rest is small and not too small: plain numerics. -/
import Derived.Test.YtnkpcjmmingkkaaDoorRed
namespace Go.Proofs.YtnkpcjmmingkkaaDoor.F64
open Go Go.RowKit Go.Proofs.YtnkpcjmmingkkaaDoor.FL
set_option linter.unusedVariables false
def wK : Nat := 4608412980311869571
def wA : Nat := 4605249456957292544
def wB : Nat := 4495793288086814720
def wC : Nat := 4388835458085048688
theorem fK : FL.Fin 4608412980311869571 := by unfold FL.Fin; decide
theorem vK : rv 4608412980311869571 = 5734161139222659 / 4503599627370496 := by decide +kernel
theorem fA : FL.Fin 4605249456957292544 := by unfold FL.Fin; decide
theorem vA : rv 4605249456957292544 = 6588397 / 8388608 := by decide +kernel
theorem fB : FL.Fin 4495793288086814720 := by unfold FL.Fin; decide
theorem vB : rv 4495793288086814720 = 1328173 / 35184372088832 := by decide +kernel
theorem fC : FL.Fin 4388835458085048688 := by unfold FL.Fin; decide
theorem vC : rv 4388835458085048688 = 427063790847255 / 158456325028528675187087900672 := by decide +kernel
theorem fOne : FL.Fin 4607182418800017408 := by unfold FL.Fin; decide
theorem vOne : rv 4607182418800017408 = 1 := by decide +kernel
theorem fZ : FL.Fin 0 := by unfold FL.Fin; omega
theorem vZ : rv 0 = 0 := rv_word_zero false
theorem rep_frac (N : Int) (e : Nat) (h : N.natAbs ≤ 2 ^ 53) (he : e ≤ 1074) : ∃ t, FL.Fin t ∧ rv t = (N : Rat) * p2 (-(e : Int)) := by
  have hb : (N.natAbs : Rat) * p2 (-(e : Int)) ≤ p2 1023 := by
    have h3 : (N.natAbs : Rat) ≤ p2 ((53 : Nat) : Int) := by rw [p2_nat]; exact_mod_cast h
    have h4 := p2_le (show -(e : Int) ≤ 0 by omega)
    rw [p2_zero] at h4
    have h5 := p2_pos (-(e : Int))
    have h6 := p2_le (show ((53 : Nat) : Int) ≤ 1023 by omega)
    have h7 : (0 : Rat) ≤ (N.natAbs : Rat) := natCast_nn _
    have h8 := mul_abs (x := (N.natAbs : Rat)) (d := p2 (-(e : Int))) (X := p2 ((53 : Nat) : Int)) (E := 1) (by have := p2_pos ((53 : Nat) : Int); grind) h3 (by grind) h4
    grind
  obtain ⟨t, ht, et⟩ := rep (decide (N < 0)) N.natAbs (-(e : Int)) h (by omega) hb
  refine ⟨t, ht, ?_⟩
  rw [et, total_val N _ (fun _ => rfl)]
/-- A product that a word has. -/
theorem mul_exact {x y : Nat} (hx : FL.Fin x) (hy : FL.Fin y) (N : Int) (e : Nat) (h : N.natAbs ≤ 2 ^ 53) (he : e ≤ 1074) (hv : rv x * rv y = (N : Rat) * p2 (-(e : Int))) (b1 : -p2 1023 ≤ rv x * rv y) (b2 : rv x * rv y ≤ p2 1023) :
    ∃ z, floatBits .mul .f64 x y = some z ∧ FL.Fin z ∧ rv z = rv x * rv y := by
  obtain ⟨z, hz, hr, -, -⟩ := mul_rnd hx hy b1 b2
  obtain ⟨t, ht, et⟩ := rep_frac N e h he
  exact ⟨z, hz, hr.fin, hr.exact ht (by rw [et, hv])⟩
theorem floatOf (J : Int) (h0 : 0 ≤ J) (h1 : J ≤ 2 ^ 52) : FL.Fin (floatOfInt .f64 J) ∧ rv (floatOfInt .f64 J) = (J : Rat) := by
  have hb : (J.natAbs : Rat) * p2 0 ≤ p2 1023 := by
    rw [p2_zero]
    have h4 : (J.natAbs : Rat) ≤ p2 ((53 : Nat) : Int) := by rw [p2_nat]; exact_mod_cast (show J.natAbs ≤ 2 ^ 53 by omega)
    have := p2_le (show ((53 : Nat) : Int) ≤ 1023 by omega)
    grind
  have hd : decide (J < 0) = false := decide_eq_false (by omega)
  have e : floatOfInt .f64 J = Ieee.double.nearest (decide (J < 0)) J.natAbs 0 := rfl
  rw [e]
  refine ⟨(rnd_nearest _ _ _ hb).1.fin, ?_⟩
  rw [nearest_exact _ _ _ (by omega) (by omega) hb, p2_zero, total_val J _ (fun _ => rfl)]
  grind
theorem pC23 : p2 (-((23 : Nat) : Int)) = 1 / 8388608 := by unfold p2; decide +kernel
theorem pC45 : p2 (-((45 : Nat) : Int)) = 1 / 35184372088832 := by unfold p2; decide +kernel
theorem q0 : (((0 : Int)) : Rat) = 0 := by rfl
theorem qA : (((6588397 : Int)) : Rat) = 6588397 := by rfl
theorem qB : (((1328173 : Int)) : Rat) = 1328173 := by rfl
/-- What the reduction leaves. -/
def Rest (ax z : Nat) : Prop := FL.Fin z ∧ -(4 / 5) ≤ rv z ∧ rv z ≤ 4 / 5 ∧ (rv z = 0 ∨ rv z = rv ax ∨ p2 (-110) ≤ rv z ∨ rv z ≤ -p2 (-110))
set_option maxRecDepth 10000 in
theorem red_of (ax : Nat) (hf : FL.Fin ax) (h0 : 0 ≤ rv ax) (h1 : rv ax ≤ 32768) : ∃ o z, Red ax o z ∧ Rest ax z := by
  have big := big_le
  have el := eta_le
  have ep := eta_pos
  have u := u53_eq
  obtain ⟨m1, hm1, rm1, -, -⟩ := mul_rnd hf fK (by rw [vK]; grind) (by rw [vK]; grind)
  rw [vK] at rm1
  have em := rm1.err 65536 (by grind) (by grind)
  rw [u] at em
  have m0 : 0 ≤ rv m1 := by
    have := rm1.above 0 fZ (by rw [vZ]; grind)
    rw [vZ] at this; exact this
  have hti := toInt_floor rm1.fin m0
  obtain ⟨J, hJ⟩ : ∃ J, (rv m1).floor = J := ⟨_, rfl⟩
  rw [hJ] at hti
  have l1 : (J : Rat) ≤ rv m1 := by rw [← hJ]; exact Rat.le_floor_iff.1 (Int.le_refl _)
  have l2 : rv m1 < ((J + 1 : Int) : Rat) := by rw [← hJ]; exact Rat.floor_lt_iff.1 (by omega)
  rw [Rat.intCast_add] at l2
  have c1 : (((1 : Int)) : Rat) = 1 := by rfl
  rw [c1] at l2
  have J0 : 0 ≤ J := by rw [← hJ]; exact Rat.le_floor_iff.2 (by rw [q0]; exact m0)
  have J1 : J ≤ 65536 := by
    have h : (J : Rat) ≤ ((65536 : Int) : Rat) := by
      have : (((65536 : Int)) : Rat) = 65536 := by rfl
      rw [this]; grind
    exact Rat.intCast_le_intCast.1 h
  have hfi : floatToIntVal .f64 m1 .u64 = some J := by
    unfold floatToIntVal
    have ht : (FloatKind.f64.decode m1).toInt .zero = some J := hti
    rw [ht]
    have k1 : IntKind.u64.min = 0 := by decide
    have k2 : IntKind.u64.max = 18446744073709551615 := by decide
    simp only [k1, k2]
    rw [if_pos (by omega)]
  obtain ⟨fJ, vJ⟩ := floatOf J J0 (by omega)
  -- the even quarter
  obtain ⟨p, Y, y, hp, fy, vy, hY0, hY1, hY2, hev⟩ : ∃ (p : Bool) (Y : Int) (y : Nat), (∀ o, (o = Y % 8) → (if p then J % 2 = 1 ∧ floatBits .add .f64 (floatOfInt .f64 J) 4607182418800017408 = some y ∧ o = (J + 1) % 8 else J % 2 = 0 ∧ y = floatOfInt .f64 J ∧ o = J % 8)) ∧ FL.Fin y ∧ rv y = (Y : Rat) ∧ J ≤ Y ∧ Y ≤ J + 1 ∧ Y ≤ 65537 ∧ Y % 2 = 0 := by
    by_cases hj : J % 2 = 0
    · exact ⟨false, J, _, fun o ho => by rw [if_neg (by decide)]; exact ⟨hj, rfl, ho⟩, fJ, vJ, by omega, by omega, by omega, hj⟩
    · have jb : (J : Rat) ≤ 65536 := by
        have h : (J : Rat) ≤ ((65536 : Int) : Rat) := Rat.intCast_le_intCast.2 J1
        have : (((65536 : Int)) : Rat) = 65536 := by rfl
        rw [this] at h; exact h
      have jn : (0 : Rat) ≤ (J : Rat) := by exact_mod_cast J0
      obtain ⟨y, hy, ry, -⟩ := add_rnd fJ fOne (by rw [vJ, vOne]; grind) (by rw [vJ, vOne]; grind)
      rw [vJ, vOne] at ry
      obtain ⟨t, ht, et⟩ := rep_int (J + 1) (by omega) (by omega)
      have e1 : rv y = ((J + 1 : Int) : Rat) := by
        rw [ry.exact ht (by rw [et, Rat.intCast_add, c1]), Rat.intCast_add, c1]
      exact ⟨true, J + 1, y, fun o ho => by rw [if_pos rfl]; exact ⟨by omega, hy, ho⟩, ry.fin, e1, by omega, by omega, by omega, by omega⟩
  have y0 : (0 : Rat) ≤ (Y : Rat) := by exact_mod_cast (show (0 : Int) ≤ Y by omega)
  have y1 : (Y : Rat) ≤ 65537 := by
    have h : (Y : Rat) ≤ ((65537 : Int) : Rat) := Rat.intCast_le_intCast.2 hY2
    have : (((65537 : Int)) : Rat) = 65537 := by rfl
    rw [this] at h; exact h
  have yj : (J : Rat) ≤ (Y : Rat) := by exact_mod_cast hY0
  have yj1 : (Y : Rat) ≤ (J : Rat) + 1 := by
    have h : (Y : Rat) ≤ ((J + 1 : Int) : Rat) := by exact_mod_cast hY1
    rw [Rat.intCast_add, c1] at h; exact h
  -- the products
  obtain ⟨ya, hya, fya, vya⟩ := mul_exact fy fA (Y * 6588397) 23 (by omega) (by omega) (by rw [vy, vA, pC23, Rat.intCast_mul, qA]; grind) (by rw [vy, vA]; grind) (by rw [vy, vA]; grind)
  rw [vy, vA] at vya
  obtain ⟨r1, hr1, rr1, -⟩ := sub_rnd hf fya (by rw [vya]; grind) (by rw [vya]; grind)
  rw [vya] at rr1
  obtain ⟨yb, hyb, fyb, vyb⟩ := mul_exact fy fB (Y * 1328173) 45 (by omega) (by omega) (by rw [vy, vB, pC45, Rat.intCast_mul, qB]; grind) (by rw [vy, vB]; grind) (by rw [vy, vB]; grind)
  rw [vy, vB] at vyb
  have e1 := rr1.err 2 (by grind) (by grind)
  rw [u] at e1
  obtain ⟨r2, hr2, rr2, -⟩ := sub_rnd rr1.fin fyb (by rw [vyb]; grind) (by rw [vyb]; grind)
  rw [vyb] at rr2
  have e2 := rr2.err 2 (by grind) (by grind)
  rw [u] at e2
  obtain ⟨yc, hyc, ryc, -, -⟩ := mul_rnd fy fC (by rw [vy, vC]; grind) (by rw [vy, vC]; grind)
  rw [vy, vC] at ryc
  have e3 := ryc.err 1 (by grind) (by grind)
  rw [u] at e3
  obtain ⟨z, hz, rz, -⟩ := sub_rnd rr2.fin ryc.fin (by grind) (by grind)
  have e4 := rz.err 2 (by grind) (by grind)
  rw [u] at e4
  refine ⟨Y % 8, z, ⟨⟨m1, y, J, p, ya, r1, yb, r2, yc, hm1, hfi, J0, by omega, hp _ rfl, hya, hr1, hyb, hr2, hyc, hz⟩, by omega⟩, rz.fin, by grind, by grind, ?_⟩
  by_cases hY : Y = 0
  · -- nothing is taken away
    right; left
    have vY : (Y : Rat) = 0 := by rw [hY, q0]
    rw [vY] at rr1 rr2 ryc
    have a1 := rr1.exact hf (by grind)
    have a2 := rr2.exact rr1.fin (by grind)
    have a3 := ryc.zero (by grind)
    have a4 := rz.exact rr2.fin (by rw [a3]; grind)
    grind
  · have hY2' : (2 : Rat) ≤ (Y : Rat) := by
      have h : ((2 : Int) : Rat) ≤ (Y : Rat) := Rat.intCast_le_intCast.2 (by omega)
      have : (((2 : Int)) : Rat) = 2 := by rfl
      rw [this] at h; exact h
    have hc : p2 (-48) ≤ rv yc := by
      have : p2 (-48) = 1 / 281474976710656 := by unfold p2; decide +kernel
      rw [this]; grind
    have hg := gap rr2.fin ryc.fin (-48) hc
    rw [show ((-48 : Int) - 53) = -101 by decide] at hg
    obtain ⟨t, ht, et⟩ := rep_frac 1 101 (by decide) (by decide)
    have et' : rv t = p2 (-101) := by rw [et, c1]; rw [show (-((101 : Nat) : Int)) = -101 by decide]; grind
    obtain ⟨t2, ht2, et2⟩ := rep_frac (-1) 101 (by decide) (by decide)
    have et2' : rv t2 = -p2 (-101) := by
      rw [et2, show (-((101 : Nat) : Int)) = -101 by decide]
      have : (((-1 : Int)) : Rat) = -1 := by rfl
      rw [this]; grind
    have hle := p2_le (show (-110 : Int) ≤ -101 by decide)
    rcases hg with hg | hg | hg
    · left; exact rz.zero hg
    · right; right; left
      have := rz.above t ht (by rw [et']; exact hg)
      rw [et'] at this; grind
    · right; right; right
      have := rz.below t2 ht2 (by rw [et2']; exact hg)
      rw [et2'] at this; grind
end Go.Proofs.YtnkpcjmmingkkaaDoor.F64
