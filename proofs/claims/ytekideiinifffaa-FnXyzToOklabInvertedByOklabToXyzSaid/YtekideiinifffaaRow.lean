/- One row of a matrix product in floating point: that it is valid, and how near it comes to the exact row. Plain Lean. -/
import Derived.Test.YtekideiinifffaaFloat
import Derived.Test.YtekideiinifffaaMat
namespace Go.Proofs.Ytekideiinifffaa.F64
open Go.Proofs.Ytekideiinifffaa.FL

theorem fo_add {x y : Nat} (hx : FL.Fin x) (hy : FL.Fin y) (h1 : -p2 1023 ≤ rv x + rv y) (h2 : rv x + rv y ≤ p2 1023) :
    ok .add x y ∧ Rnd (rv x + rv y) (fo .add x y) ∧ IsNear (rv x + rv y) (fo .add x y) := by
  obtain ⟨z, hz, hr, hn⟩ := add_rnd hx hy h1 h2
  have e : floatBits .add .f64 x y = some z := hz
  unfold ok fo; rw [e]; exact ⟨rfl, hr, hn⟩
theorem fo_sub {x y : Nat} (hx : FL.Fin x) (hy : FL.Fin y) (h1 : -p2 1023 ≤ rv x - rv y) (h2 : rv x - rv y ≤ p2 1023) :
    ok .sub x y ∧ Rnd (rv x - rv y) (fo .sub x y) ∧ IsNear (rv x - rv y) (fo .sub x y) := by
  obtain ⟨z, hz, hr, hn⟩ := sub_rnd hx hy h1 h2
  have e : floatBits .sub .f64 x y = some z := hz
  unfold ok fo; rw [e]; exact ⟨rfl, hr, hn⟩
theorem fo_mul {x y : Nat} (hx : FL.Fin x) (hy : FL.Fin y) (h1 : -p2 1023 ≤ rv x * rv y) (h2 : rv x * rv y ≤ p2 1023) :
    ok .mul x y ∧ Rnd (rv x * rv y) (fo .mul x y) ∧ IsNear (rv x * rv y) (fo .mul x y) ∧ (fo .mul x y / 2 ^ 63 % 2 == 1) = ((x / 2 ^ 63 % 2 == 1) ^^ (y / 2 ^ 63 % 2 == 1)) := by
  obtain ⟨z, hz, hr, hn, hs⟩ := mul_rnd hx hy h1 h2
  have e : floatBits .mul .f64 x y = some z := hz
  unfold ok fo; rw [e]; exact ⟨rfl, hr, hn, hs⟩
theorem fo_div {x y : Nat} (hx : FL.Fin x) (hy : FL.Fin y) (hy0 : rv y ≠ 0) (h1 : -p2 1023 ≤ rv x / rv y) (h2 : rv x / rv y ≤ p2 1023) :
    ok .quo x y ∧ Rnd (rv x / rv y) (fo .quo x y) ∧ (fo .quo x y / 2 ^ 63 % 2 == 1) = ((x / 2 ^ 63 % 2 == 1) ^^ (y / 2 ^ 63 % 2 == 1)) := by
  obtain ⟨z, hz, hr, hs⟩ := div_rnd hx hy hy0 h1 h2
  have e : floatBits .quo .f64 x y = some z := hz
  unfold ok fo; rw [e]; exact ⟨rfl, hr, hs⟩

/-- A row, and its error. 'T' bounds the three products together. -/
theorem row_err {a b c x y z : Nat} {A B C T : Rat} (ha : FL.Fin a) (hb : FL.Fin b) (hc : FL.Fin c) (hx : FL.Fin x) (hy : FL.Fin y) (hz : FL.Fin z)
    (a1 : -A ≤ rv x * rv a) (a2 : rv x * rv a ≤ A) (b1 : -B ≤ rv y * rv b) (b2 : rv y * rv b ≤ B) (c1 : -C ≤ rv z * rv c) (c2 : rv z * rv c ≤ C)
    (hT : A + B + C ≤ T) (hbig : 2 * T + 1 ≤ p2 1023) :
    rowOK a b c x y z ∧ FL.Fin (row a b c x y z) ∧
    rv x * rv a + rv y * rv b + rv z * rv c - (6 * T * u53 + 8 * eta) ≤ rv (row a b c x y z) ∧
    rv (row a b c x y z) ≤ rv x * rv a + rv y * rv b + rv z * rv c + (6 * T * u53 + 8 * eta) := by
  have hu := u53_eq
  have he := eta_pos
  have hel := eta_le
  obtain ⟨ok1, r1, -, -⟩ := fo_mul hx ha (by grind) (by grind)
  obtain ⟨ok2, r2, -, -⟩ := fo_mul hy hb (by grind) (by grind)
  obtain ⟨ok3, r3, -, -⟩ := fo_mul hz hc (by grind) (by grind)
  have e1 := r1.err A a1 a2
  have e2 := r2.err B b1 b2
  have e3 := r3.err C c1 c2
  generalize hp : fo .mul x a = p at *
  generalize hq : fo .mul y b = q at *
  generalize hr : fo .mul z c = r at *
  rw [hu] at e1 e2 e3 ⊢
  obtain ⟨ok4, r4, -⟩ := fo_add r1.fin r2.fin (by grind) (by grind)
  have e4 := r4.err (A + B + (A + B) * (1 / 9007199254740992) + 2 * eta) (by grind) (by grind)
  generalize hs : fo .add p q = s at *
  rw [hu] at e4
  obtain ⟨ok5, r5, -⟩ := fo_add r4.fin r3.fin (by grind) (by grind)
  have e5 := r5.err (T + 3 * T * (1 / 9007199254740992) + 6 * eta) (by grind) (by grind)
  rw [hu] at e5
  have hrow : row a b c x y z = fo .add s r := by unfold row; rw [hp, hq, hr, hs]
  rw [hrow]
  refine ⟨⟨?_, ?_, ?_, ?_, ?_⟩, r5.fin, ?_, ?_⟩
  · exact ok1
  · exact ok2
  · exact ok3
  · rw [hp, hq]; exact ok4
  · rw [hp, hq, hr, hs]; exact ok5
  · grind
  · grind
end Go.Proofs.Ytekideiinifffaa.F64
