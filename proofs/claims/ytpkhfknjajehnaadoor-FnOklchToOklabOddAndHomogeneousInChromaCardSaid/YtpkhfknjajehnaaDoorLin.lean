/- Products with the chroma: doubling and sign. Of no program. -/
import Derived.Test.YtpkhfknjajehnaaDoorTrig
namespace Go.Proofs.YtpkhfknjajehnaaDoor.F64
open Go Go.RowKit Go.Lib Go.Proofs.YtpkhfknjajehnaaDoor.FL
set_option linter.unusedVariables false
def w2 : Nat := 4611686018427387904
theorem fTwo : FL.Fin w2 := by unfold FL.Fin w2; decide
theorem vTwo : rv w2 = 2 := by decide +kernel
theorem big_two : p2 1023 = 2 * p2 1022 := p2_1023
/-- A chroma: nought, or neither too small nor too great. -/
def Chr (c : Nat) (lo : Int) : Prop := FL.Fin c ∧ -(10 : Rat) ^ 301 ≤ rv c ∧ rv c ≤ (10 : Rat) ^ 301 ∧ (rv c = 0 ∨ p2 lo ≤ rv c ∨ rv c ≤ -p2 lo)
theorem ten_pos : (0 : Rat) < 10 ^ 301 := by decide +kernel
theorem ten_big : 4 * (10 : Rat) ^ 301 ≤ p2 1022 := by unfold p2; decide +kernel
/-- Twice a number that is not too great: exact. -/
theorem mul_two {x : Nat} (hx : FL.Fin x) (b1 : -p2 1022 ≤ rv x) (b2 : rv x ≤ p2 1022) : ∃ t, floatBits .mul .f64 w2 x = some t ∧ FL.Fin t ∧ rv t = 2 * rv x := by
  have h := big_two
  obtain ⟨t, ht, hr, -, -⟩ := mul_rnd fTwo hx (by rw [vTwo]; grind) (by rw [vTwo]; grind)
  obtain ⟨s, hs, es⟩ := rep_two hx b1 b2
  rw [vTwo] at hr
  exact ⟨t, ht, hr.fin, hr.exact hs es⟩
theorem pm_mul {a b A B : Rat} (ha : a = A ∨ a = -A) (hb : b = B ∨ b = -B) : a * b = A * B ∨ a * b = -(A * B) := by
  rcases ha with rfl | rfl <;> rcases hb with rfl | rfl
  · exact .inl rfl
  · right; grind
  · right; grind
  · left; grind
theorem pm_of {x lo : Rat} (h : lo ≤ x ∨ x ≤ -lo) (h0 : 0 < lo) : ∃ X, lo ≤ X ∧ (x = X ∨ x = -X) := by
  rcases h with h | h
  · exact ⟨x, h, .inl rfl⟩
  · exact ⟨-x, by grind, .inr (by grind)⟩
theorem mult_zero : Mult 0 := ⟨0, by simp⟩
/-- The products of a value with c, 2c and -c. -/
theorem lin {b lo : Int} {v c c2 : Nat} (hv : Val b v) (hc : Chr c lo) (hlo : -1022 ≤ b - 1 + lo) (f2 : FL.Fin c2) (e2 : rv c2 = 2 * rv c) :
    ∃ p q r d, floatBits .mul .f64 v c = some p ∧ floatBits .mul .f64 v c2 = some q ∧ floatBits .mul .f64 v (Op.negFloat .f64 c) = some r ∧ floatBits .mul .f64 w2 p = some d ∧
      (FloatKind.f64.format.order q d == some .eq) = true ∧ (FloatKind.f64.format.order r (Op.negFloat .f64 p) == some .eq) = true := by
  obtain ⟨fv, v1, v2, v3⟩ := hv
  obtain ⟨fc, c1, c2', c3⟩ := hc
  have tp := ten_pos
  have tb := ten_big
  have bt := big_two
  obtain ⟨m1, m2⟩ := mul_abs v1 v2 c1 c2'
  obtain ⟨n1, n2⟩ := mul_abs v1 v2 (show -(2 * (10 : Rat) ^ 301) ≤ rv c2 by rw [e2]; grind) (show rv c2 ≤ 2 * (10 : Rat) ^ 301 by rw [e2]; grind)
  have en : Op.negFloat .f64 c = c ^^^ 2 ^ 63 := rfl
  have fn := neg_fin fc
  have vn := neg_rv fc
  rw [← en] at fn vn
  obtain ⟨p, hp, rp, ip, -⟩ := mul_rnd fv fc (by grind) (by grind)
  obtain ⟨q, hq, rq, iq, -⟩ := mul_rnd fv f2 (by grind) (by grind)
  have evn : rv v * rv (Op.negFloat .f64 c) = - (rv v * rv c) := by rw [vn]; grind
  obtain ⟨r, hr, rr, ir, -⟩ := mul_rnd fv fn (by rw [evn]; grind) (by rw [evn]; grind)
  have ev2 : rv v * rv c2 = 2 * (rv v * rv c) := by rw [e2]; grind
  have hsmall : Mult (rv v * rv c) ∨ p2 (-1022) ≤ rv v * rv c ∨ rv v * rv c ≤ -p2 (-1022) := by
    rcases v3 with v3 | v3
    · left; rw [v3, Rat.zero_mul]; exact mult_zero
    rcases c3 with c3 | c3
    · left; rw [c3, Rat.mul_zero]; exact mult_zero
    right
    obtain ⟨V, hV, eV⟩ := pm_of v3 (p2_pos _)
    obtain ⟨C, hC, eC⟩ := pm_of c3 (p2_pos _)
    have hle := p2_le hlo
    rw [p2_add] at hle
    have h1 : p2 (b - 1) * p2 lo ≤ V * C := by
      have a1 := Rat.mul_le_mul_of_nonneg_right hV (Rat.le_of_lt (p2_pos lo))
      have a2 := Rat.mul_le_mul_of_nonneg_left hC (show (0 : Rat) ≤ V by have := p2_pos (b - 1); grind)
      grind
    rcases pm_mul eV eC with h | h
    · left; grind
    · right; grind
  have eq2 := ip.dbl iq ev2 hsmall (by grind) (by grind)
  have er := ip.opp ir evn rp.fin
  have el := eta_le
  have bp := rp.err (5 / 4 * (10 : Rat) ^ 301) m1 m2
  rw [u53_eq] at bp
  obtain ⟨d, hd, fd, ed⟩ := mul_two rp.fin (by grind) (by grind)
  refine ⟨p, q, r, d, hp, hq, hr, hd, ?_, ?_⟩
  · show (Ieee.double.order q d == some .eq) = true
    rw [eq_iff rq.fin fd, decide_eq_true_iff, eq2, ed]
  · have ep : Op.negFloat .f64 p = p ^^^ 2 ^ 63 := rfl
    have fnp := neg_fin rp.fin
    have vnp := neg_rv rp.fin
    rw [← ep] at fnp vnp
    show (Ieee.double.order r (Op.negFloat .f64 p) == some .eq) = true
    rw [eq_iff rr.fin fnp, decide_eq_true_iff, er, vnp]
end Go.Proofs.YtpkhfknjajehnaaDoor.F64
