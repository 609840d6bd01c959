/- The reduction by quarters of pi, with its accuracy. -/
import Derived.Test.YtnkpcjmmingkkaaDoorRde
import Derived.Test.YtnkpcjmmingkkaaDoorPm
namespace Go.Proofs.YtnkpcjmmingkkaaDoor.F64
open Go Go.RowKit Go.Proofs.YtnkpcjmmingkkaaDoor.FL
set_option linter.unusedVariables false
set_option maxRecDepth 10000 in
theorem red_acc (ax : Nat) (hf : FL.Fin ax) (h0 : 0 ≤ rv ax) (h1 : rv ax ≤ 256) : ∃ (Y : Int) (z : Nat), Red ax (Y % 8) z ∧ FL.Fin z ∧ 0 ≤ Y ∧ Y % 2 = 0 ∧ -(1 / 10000000000000) ≤ rv z - (rv ax - (Y : Rat) * PL.p4) ∧ rv z - (rv ax - (Y : Rat) * PL.p4) ≤ 1 / 10000000000000 ∧ -(78541 / 100000) ≤ rv z ∧ rv z ≤ 78541 / 100000 := by
  have big := big_le
  have el := eta_le
  have ep := eta_pos
  have u := u53_eq
  obtain ⟨m1, hm1, rm1, -, -⟩ := mul_rnd hf fK (by rw [vK]; grind) (by rw [vK]; grind)
  rw [vK] at rm1
  have em := rm1.err 512 (by grind) (by grind)
  rw [u] at em
  have m0 : 0 ≤ rv m1 := by
    have := rm1.above 0 fZ (by rw [vZ]; grind)
    rw [vZ] at this; exact this
  have hti := toInt_floor rm1.fin m0
  obtain ⟨J, hJ⟩ : ∃ J, (rv m1).floor = J := ⟨_, rfl⟩
  rw [hJ] at hti
  have l1 : (J : Rat) ≤ rv m1 := by rw [← hJ]; exact Rat.le_floor_iff.1 (Int.le_refl _)
  have l2 : rv m1 < ((J + 1 : Int) : Rat) := by rw [← hJ]; exact Rat.floor_lt_iff.1 (by omega)
  rw [Rat.intCast_add] at l2
  have c1 : (((1 : Int)) : Rat) = 1 := by rfl
  rw [c1] at l2
  have J0 : 0 ≤ J := by rw [← hJ]; exact Rat.le_floor_iff.2 (by rw [q0]; exact m0)
  have J1 : J ≤ 512 := by
    have h : (J : Rat) ≤ ((512 : Int) : Rat) := by
      have : (((512 : Int)) : Rat) = 512 := by rfl
      rw [this]; grind
    exact Rat.intCast_le_intCast.1 h
  have hfi : floatToIntVal .f64 m1 .u64 = some J := by
    unfold floatToIntVal
    have ht : (FloatKind.f64.decode m1).toInt .zero = some J := hti
    rw [ht]
    have k1 : IntKind.u64.min = 0 := by decide
    have k2 : IntKind.u64.max = 18446744073709551615 := by decide
    simp only [k1, k2]
    rw [if_pos (by omega)]
  obtain ⟨fJ, vJ⟩ := floatOf J J0 (by omega)
  -- the even quarter
  obtain ⟨p, Y, y, hp', fy, vy, hY0, hY1, hY2, hev⟩ : ∃ (p : Bool) (Y : Int) (y : Nat), (∀ o, (o = Y % 8) → (if p then J % 2 = 1 ∧ floatBits .add .f64 (floatOfInt .f64 J) 4607182418800017408 = some y ∧ o = (J + 1) % 8 else J % 2 = 0 ∧ y = floatOfInt .f64 J ∧ o = J % 8)) ∧ FL.Fin y ∧ rv y = (Y : Rat) ∧ J ≤ Y ∧ Y ≤ J + 1 ∧ Y ≤ 513 ∧ Y % 2 = 0 := by
    by_cases hj : J % 2 = 0
    · exact ⟨false, J, _, fun o ho => by rw [if_neg (by decide)]; exact ⟨hj, rfl, ho⟩, fJ, vJ, by omega, by omega, by omega, hj⟩
    · have jb : (J : Rat) ≤ 512 := by
        have h : (J : Rat) ≤ ((512 : Int) : Rat) := Rat.intCast_le_intCast.2 J1
        have : (((512 : Int)) : Rat) = 512 := by rfl
        rw [this] at h; exact h
      have jn : (0 : Rat) ≤ (J : Rat) := by exact_mod_cast J0
      obtain ⟨y, hy, ry, -⟩ := add_rnd fJ fOne (by rw [vJ, vOne]; grind) (by rw [vJ, vOne]; grind)
      rw [vJ, vOne] at ry
      obtain ⟨t, ht, et⟩ := rep_int (J + 1) (by omega) (by omega)
      have e1 : rv y = ((J + 1 : Int) : Rat) := by
        rw [ry.exact ht (by rw [et, Rat.intCast_add, c1]), Rat.intCast_add, c1]
      exact ⟨true, J + 1, y, fun o ho => by rw [if_pos rfl]; exact ⟨by omega, hy, ho⟩, ry.fin, e1, by omega, by omega, by omega, by omega⟩
  have y0 : (0 : Rat) ≤ (Y : Rat) := by exact_mod_cast (show (0 : Int) ≤ Y by omega)
  have y1 : (Y : Rat) ≤ 513 := by
    have h : (Y : Rat) ≤ ((513 : Int) : Rat) := Rat.intCast_le_intCast.2 hY2
    have : (((513 : Int)) : Rat) = 513 := by rfl
    rw [this] at h; exact h
  have yj : (J : Rat) ≤ (Y : Rat) := by exact_mod_cast hY0
  have yj1 : (Y : Rat) ≤ (J : Rat) + 1 := by
    have h : (Y : Rat) ≤ ((J + 1 : Int) : Rat) := by exact_mod_cast hY1
    rw [Rat.intCast_add, c1] at h; exact h
  -- the products
  obtain ⟨ya, hya, fya, vya⟩ := mul_exact fy fA (Y * 6588397) 23 (by omega) (by omega) (by rw [vy, vA, pC23, Rat.intCast_mul, qA]; grind) (by rw [vy, vA]; grind) (by rw [vy, vA]; grind)
  rw [vy, vA] at vya
  obtain ⟨r1, hr1, rr1, -⟩ := sub_rnd hf fya (by rw [vya]; grind) (by rw [vya]; grind)
  rw [vya] at rr1
  obtain ⟨yb, hyb, fyb, vyb⟩ := mul_exact fy fB (Y * 1328173) 45 (by omega) (by omega) (by rw [vy, vB, pC45, Rat.intCast_mul, qB]; grind) (by rw [vy, vB]; grind) (by rw [vy, vB]; grind)
  rw [vy, vB] at vyb
  have e1 := rr1.err 2 (by grind) (by grind)
  rw [u] at e1
  obtain ⟨r2, hr2, rr2, -⟩ := sub_rnd rr1.fin fyb (by rw [vyb]; grind) (by rw [vyb]; grind)
  rw [vyb] at rr2
  have e2 := rr2.err 2 (by grind) (by grind)
  rw [u] at e2
  obtain ⟨yc, hyc, ryc, -, -⟩ := mul_rnd fy fC (by rw [vy, vC]; grind) (by rw [vy, vC]; grind)
  rw [vy, vC] at ryc
  have e3 := ryc.err 1 (by grind) (by grind)
  rw [u] at e3
  obtain ⟨z, hz, rz, -⟩ := sub_rnd rr2.fin ryc.fin (by grind) (by grind)
  have e4 := rz.err 2 (by grind) (by grind)
  rw [u] at e4
  have hp : PL.p4 = 6588397 / 8388608 + 1328173 / 35184372088832 + 427063790847255 / 158456325028528675187087900672 := by decide +kernel
  have pb : (7853981 / 10000000 : Rat) ≤ PL.p4 ∧ PL.p4 ≤ 7853982 / 10000000 := by decide +kernel
  have acc : -(1 / 10000000000000) ≤ rv z - (rv ax - (Y : Rat) * PL.p4) ∧ rv z - (rv ax - (Y : Rat) * PL.p4) ≤ 1 / 10000000000000 := by
    rw [hp]
    constructor <;> grind
  refine ⟨Y, z, ⟨⟨m1, y, J, p, ya, r1, yb, r2, yc, hm1, hfi, J0, by omega, hp' _ rfl, hya, hr1, hyb, hr2, hyc, hz⟩, by omega⟩, rz.fin, by omega, hev, acc.1, acc.2, ?_, ?_⟩
  · grind
  · grind
end Go.Proofs.YtnkpcjmmingkkaaDoor.F64
