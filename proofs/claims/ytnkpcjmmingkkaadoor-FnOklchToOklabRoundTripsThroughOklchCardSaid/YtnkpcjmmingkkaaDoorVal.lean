/- What the sine and the cosine of a small rest may be: plain numerics. -/
import Derived.Test.YtnkpcjmmingkkaaDoorRde
namespace Go.Proofs.YtnkpcjmmingkkaaDoor.F64
open Go Go.RowKit Go.Proofs.YtnkpcjmmingkkaaDoor.FL
set_option linter.unusedVariables false
theorem fop_some {op : BinOp} {x y z : Nat} (h : floatBits op .f64 x y = some z) : fop op x y = z := by unfold fop; rw [h]; rfl
theorem fmul {x y : Nat} (hx : FL.Fin x) (hy : FL.Fin y) (b1 : -1000 ≤ rv x * rv y) (b2 : rv x * rv y ≤ 1000) : Rnd (rv x * rv y) (fop .mul x y) := by
  have big := big_le
  obtain ⟨z, hz, hr, -, -⟩ := mul_rnd hx hy (by grind) (by grind)
  rw [fop_some (op := .mul) hz]; exact hr
theorem fadd {x y : Nat} (hx : FL.Fin x) (hy : FL.Fin y) (b1 : -1000 ≤ rv x + rv y) (b2 : rv x + rv y ≤ 1000) : Rnd (rv x + rv y) (fop .add x y) := by
  have big := big_le
  obtain ⟨z, hz, hr, -⟩ := add_rnd hx hy (by grind) (by grind)
  rw [fop_some (op := .add) hz]; exact hr
theorem fsub {x y : Nat} (hx : FL.Fin x) (hy : FL.Fin y) (b1 : -1000 ≤ rv x - rv y) (b2 : rv x - rv y ≤ 1000) : Rnd (rv x - rv y) (fop .sub x y) := by
  have big := big_le
  obtain ⟨z, hz, hr, -⟩ := sub_rnd hx hy (by grind) (by grind)
  rw [fop_some (op := .sub) hz]; exact hr
/-- Finite and at most X. -/
def Bd (x : Nat) (X : Rat) : Prop := FL.Fin x ∧ -X ≤ rv x ∧ rv x ≤ X
theorem Bd.mul {x y : Nat} {X Y : Rat} (hx : Bd x X) (hy : Bd y Y) (Z : Rat) (h1 : X * Y ≤ 100) (h2 : X * Y + X * Y / 1000 + 1 / 1000000000000000000000 ≤ Z) : Bd (fop .mul x y) Z := by
  obtain ⟨m1, m2⟩ := mul_abs hx.2.1 hx.2.2 hy.2.1 hy.2.2
  have r := fmul hx.1 hy.1 (by grind) (by grind)
  have e := r.err (X * Y) (by grind) (by grind)
  have el := eta_le
  rw [u53_eq] at e
  have h0 : 0 ≤ X * Y := by grind
  generalize X * Y = P at *
  exact ⟨r.fin, by grind, by grind⟩
theorem Bd.add {x y : Nat} {X Y : Rat} (hx : Bd x X) (hy : Bd y Y) (Z : Rat) (h1 : X + Y ≤ 100) (h2 : X + Y + (X + Y) / 1000 + 1 / 1000000000000000000000 ≤ Z) : Bd (fop .add x y) Z := by
  obtain ⟨hx, a1, a2⟩ := hx
  obtain ⟨hy, b1, b2⟩ := hy
  have r := fadd hx hy (by grind) (by grind)
  have e := r.err (X + Y) (by grind) (by grind)
  have el := eta_le
  rw [u53_eq] at e
  exact ⟨r.fin, by grind, by grind⟩
theorem polB {k0 k1 k2 k3 k4 k5 q : Nat} (h0 : Bd k0 (1 / 1000000000)) (h1 : Bd k1 (1 / 10000000)) (h2 : Bd k2 (1 / 100000)) (h3 : Bd k3 (1 / 1000)) (h4 : Bd k4 (1 / 100)) (h5 : Bd k5 (17 / 100)) (hq : Bd q (65 / 100)) :
    Bd (pol k0 k1 k2 k3 k4 k5 q) (1 / 5) := by
  unfold pol
  exact ((((((((((h0.mul hq (1 / 1000000000) (by decide +kernel) (by decide +kernel)).add h1 (2 / 10000000) (by decide +kernel) (by decide +kernel)).mul hq (2 / 10000000) (by decide +kernel) (by decide +kernel)).add h2 (2 / 100000) (by decide +kernel) (by decide +kernel)).mul hq (2 / 100000) (by decide +kernel) (by decide +kernel)).add h3 (2 / 1000) (by decide +kernel) (by decide +kernel)).mul hq (2 / 1000) (by decide +kernel) (by decide +kernel)).add h4 (2 / 100) (by decide +kernel) (by decide +kernel)).mul hq (2 / 100) (by decide +kernel) (by decide +kernel)).add h5 (1 / 5) (by decide +kernel) (by decide +kernel))
theorem bs0 : Bd s0 (1 / 1000000000) := ⟨by unfold FL.Fin s0; decide, by decide +kernel, by decide +kernel⟩
theorem bs1 : Bd s1 (1 / 10000000) := ⟨by unfold FL.Fin s1; decide, by decide +kernel, by decide +kernel⟩
theorem bs2 : Bd s2 (1 / 100000) := ⟨by unfold FL.Fin s2; decide, by decide +kernel, by decide +kernel⟩
theorem bs3 : Bd s3 (1 / 1000) := ⟨by unfold FL.Fin s3; decide, by decide +kernel, by decide +kernel⟩
theorem bs4 : Bd s4 (1 / 100) := ⟨by unfold FL.Fin s4; decide, by decide +kernel, by decide +kernel⟩
theorem bs5 : Bd s5 (17 / 100) := ⟨by unfold FL.Fin s5; decide, by decide +kernel, by decide +kernel⟩
theorem bc0 : Bd c0 (1 / 1000000000) := ⟨by unfold FL.Fin c0; decide, by decide +kernel, by decide +kernel⟩
theorem bc1 : Bd c1 (1 / 10000000) := ⟨by unfold FL.Fin c1; decide, by decide +kernel, by decide +kernel⟩
theorem bc2 : Bd c2 (1 / 100000) := ⟨by unfold FL.Fin c2; decide, by decide +kernel, by decide +kernel⟩
theorem bc3 : Bd c3 (1 / 1000) := ⟨by unfold FL.Fin c3; decide, by decide +kernel, by decide +kernel⟩
theorem bc4 : Bd c4 (1 / 100) := ⟨by unfold FL.Fin c4; decide, by decide +kernel, by decide +kernel⟩
theorem bc5 : Bd c5 (17 / 100) := ⟨by unfold FL.Fin c5; decide, by decide +kernel, by decide +kernel⟩
theorem fHalf : FL.Fin 4602678819172646912 := by unfold FL.Fin; decide
theorem vHalf : rv 4602678819172646912 = 1 / 2 := by decide +kernel
theorem zzB {z : Nat} (hz : Bd z (4 / 5)) : Bd (fop .mul z z) (65 / 100) ∧ 0 ≤ rv (fop .mul z z) := by
  refine ⟨hz.mul hz _ (by decide +kernel) (by decide +kernel), ?_⟩
  obtain ⟨m1, m2⟩ := mul_abs hz.2.1 hz.2.2 hz.2.1 hz.2.2
  have r := fmul hz.1 hz.1 (by grind) (by grind)
  have h := r.above 0 fZ (by
    rw [vZ]
    rcases (Rat.le_total (a := 0) (b := rv z)) with h | h
    · exact Rat.mul_nonneg h h
    · have := Rat.mul_nonneg (show 0 ≤ - rv z by grind) (show 0 ≤ - rv z by grind)
      grind)
  rw [vZ] at h
  exact h
/-- What a value may be: not too great, and zero or not too small. -/
def Val (b : Int) (v : Nat) : Prop := FL.Fin v ∧ -(5 / 4) ≤ rv v ∧ rv v ≤ 5 / 4 ∧ (rv v = 0 ∨ p2 (b - 1) ≤ rv v ∨ rv v ≤ -p2 (b - 1))
/-- How small a bound may be. -/
def BO (b : Int) : Prop := -400 ≤ b ∧ b ≤ -110
theorem p401 (b : Int) : p2 (b - 1) = p2 b / 2 := by
  have : p2 b = 2 * p2 (b - 1) := by rw [show b = 1 + (b - 1) by omega, p2_add, p2_one]; congr 2; omega
  rw [this]; grind
theorem cosV {b : Int} (hb : BO b) {z : Nat} (hz : Bd z (4 / 5)) : Val b (cosT z) := by
  obtain ⟨q, q0⟩ := zzB hz
  have hp := polB bc0 bc1 bc2 bc3 bc4 bc5 q
  have el := eta_le
  have ep := eta_pos
  unfold cosT
  generalize fop .mul z z = w at *
  obtain ⟨fw, w1, w2⟩ := q
  have r1 := fmul fHalf fw (by rw [vHalf]; grind) (by rw [vHalf]; grind)
  rw [vHalf] at r1
  have e1 := r1.err 1 (by grind) (by grind)
  have r2 := fsub fOne r1.fin (by rw [vOne, u53_eq] at *; grind) (by rw [vOne, u53_eq] at *; grind)
  rw [vOne] at r2
  rw [u53_eq] at e1
  have e2 := r2.err 2 (by grind) (by grind)
  rw [u53_eq] at e2
  have b1 : Bd (fop .mul (fop .mul w w) (pol c0 c1 c2 c3 c4 c5 w)) (9 / 100) :=
    (Bd.mul ⟨fw, w1, w2⟩ ⟨fw, w1, w2⟩ (43 / 100) (by decide +kernel) (by decide +kernel)).mul hp _ (by decide +kernel) (by decide +kernel)
  obtain ⟨fb, b1, b2⟩ := b1
  have r3 := fadd r2.fin fb (by grind) (by grind)
  have e3 := r3.err 2 (by grind) (by grind)
  rw [u53_eq] at e3
  have hs : p2 (b - 1) ≤ 1 / 2 := by
    have := p2_le (show b - 1 ≤ -1 by have := hb.2; omega)
    have e : p2 (-1) = 1 / 2 := by unfold p2; decide +kernel
    rw [e] at this; exact this
  exact ⟨r3.fin, by grind, by grind, .inr (.inl (by grind))⟩
theorem eta_small0 : eta ≤ p2 (-400) / 1000 := by
  have h : eta = p2 (-675) * p2 (-400) := by unfold eta; rw [← p2_add]; rfl
  have h1 : p2 (-675) ≤ 1 / 1000 := by unfold p2; decide +kernel
  have h2 := Rat.mul_le_mul_of_nonneg_right h1 (Rat.le_of_lt (p2_pos (-400)))
  rw [h]; grind
theorem eta_small {b : Int} (hb : BO b) : eta ≤ p2 b / 1000 := by
  have := eta_small0
  have := p2_le hb.1
  grind
theorem sinV {b : Int} (hb : BO b) {z : Nat} (hz : Bd z (4 / 5)) (h0 : rv z = 0 ∨ p2 b ≤ rv z ∨ rv z ≤ -p2 b) : Val b (sinT z) := by
  obtain ⟨q, q0⟩ := zzB hz
  have hp := polB bs0 bs1 bs2 bs3 bs4 bs5 q
  have es := eta_small hb
  have ep := eta_pos
  have p4 := p2_pos b
  unfold sinT
  generalize pol s0 s1 s2 s3 s4 s5 (fop .mul z z) = P at *
  generalize fop .mul z z = w at *
  obtain ⟨fw, w1, w2⟩ := q
  obtain ⟨fz, z1, z2⟩ := hz
  obtain ⟨fP, P1, P2⟩ := hp
  obtain ⟨A, hA0, hA1, hA2, hA3⟩ : ∃ A : Rat, 0 ≤ A ∧ A ≤ 4 / 5 ∧ (rv z = A ∨ rv z = -A) ∧ (A = 0 ∨ p2 b ≤ A) := by
    rcases (Rat.le_total (a := 0) (b := rv z)) with h | h
    · exact ⟨rv z, h, z2, .inl rfl, by rcases h0 with h0 | h0 | h0; exact .inl h0; exact .inr h0; exfalso; grind⟩
    · exact ⟨- rv z, by grind, by grind, .inr (by grind), by rcases h0 with h0 | h0 | h0; left; grind; exfalso; grind; right; grind⟩
  have a1 : -A ≤ rv z := by rcases hA2 with h | h <;> grind
  have a2 : rv z ≤ A := by rcases hA2 with h | h <;> grind
  obtain ⟨m1, m2⟩ := mul_abs a1 a2 w1 w2
  have r1 := fmul fz fw (by grind) (by grind)
  have e1 := r1.err (A * (65 / 100)) m1 m2
  rw [u53_eq] at e1
  rcases hA3 with hA3 | hA3
  · -- all is nought
    have z0 : rv z = 0 := by grind
    have n1 := r1.zero (by rw [z0]; grind)
    have r2 := fmul r1.fin fP (by rw [n1]; grind) (by rw [n1]; grind)
    have n2 := r2.zero (by rw [n1]; grind)
    have r3 := fadd fz r2.fin (by rw [n2, z0]; grind) (by rw [n2, z0]; grind)
    have n3 := r3.zero (by rw [n2, z0]; grind)
    exact ⟨r3.fin, by rw [n3]; grind, by rw [n3]; grind, .inl n3⟩
  · have b1 : -(A * (7 / 10)) ≤ rv (fop .mul z w) := by grind
    have b2 : rv (fop .mul z w) ≤ A * (7 / 10) := by grind
    obtain ⟨k1, k2⟩ := mul_abs b1 b2 P1 P2
    have r2 := fmul r1.fin fP (by grind) (by grind)
    have e2 := r2.err (A * (7 / 10) * (1 / 5)) k1 k2
    rw [u53_eq] at e2
    have r3 := fadd fz r2.fin (by grind) (by grind)
    have e3 := r3.err (A * 2) (by grind) (by grind)
    rw [u53_eq] at e3
    have h4 := p401 b
    refine ⟨r3.fin, by grind, by grind, ?_⟩
    rcases hA2 with h | h
    · right; left; grind
    · right; right; grind
theorem negV {b : Int} {v : Nat} (h : Val b v) : Val b (neg v) := by
  obtain ⟨f, a, b, c⟩ := h
  have e : neg v = v ^^^ 2 ^ 63 := rfl
  have hv := neg_rv f
  unfold Val
  rw [e, hv]
  exact ⟨neg_fin f, by grind, by grind, by rcases c with c | c | c; left; grind; right; right; grind; right; left; grind⟩
theorem sgV {b : Int} {v : Nat} (s : Bool) (h : Val b v) : Val b (sg? s v) := by
  unfold sg?
  cases s
  · exact h
  · exact negV h
theorem sinOV {b : Int} (hb : BO b) {s : Bool} {o : Int} {z : Nat} (hz : Bd z (4 / 5)) (h0 : rv z = 0 ∨ p2 b ≤ rv z ∨ rv z ≤ -p2 b) : Val b (sinO s o z) := by
  unfold sinO
  refine sgV _ ?_
  split
  · exact cosV hb hz
  · exact sinV hb hz h0
theorem cosOV {b : Int} (hb : BO b) {o : Int} {z : Nat} (hz : Bd z (4 / 5)) (h0 : rv z = 0 ∨ p2 b ≤ rv z ∨ rv z ≤ -p2 b) : Val b (cosO o z) := by
  unfold cosO
  refine sgV _ ?_
  split
  · exact sinV hb hz h0
  · exact cosV hb hz
end Go.Proofs.YtnkpcjmmingkkaaDoor.F64
