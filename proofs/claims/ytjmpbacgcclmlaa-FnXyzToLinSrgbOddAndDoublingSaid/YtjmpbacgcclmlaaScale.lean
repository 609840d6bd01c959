/- One row of a matrix product in floating point: it is odd, and it doubles with its vector, exactly. Plain Lean. -/
import Derived.Test.YtjmpbacgcclmlaaRow
namespace Go.Proofs.Ytjmpbacgcclmlaa.F64
open Go.Proofs.Ytjmpbacgcclmlaa.FL

/-- Zero, or a magnitude far from overflow and from the subnormal numbers. -/
def SC (v : Rat) : Prop := v = 0 ∨ (1 / (10 : Rat) ^ 271 ≤ v ∧ v ≤ (10 : Rat) ^ 271) ∨ (-(10 : Rat) ^ 271 ≤ v ∧ v ≤ -(1 / (10 : Rat) ^ 271))
/-- An entry of a matrix: neither too small nor too great. -/
def EN (v : Rat) : Prop := (1 / 100 ≤ v ∧ v ≤ 4) ∨ (-4 ≤ v ∧ v ≤ -(1 / 100))

theorem sc_mul {x a : Rat} (h : SC x) (k : EN a) : x * a = 0 ∨ (1 / (10 : Rat) ^ 300 ≤ x * a ∧ x * a ≤ (10 : Rat) ^ 272) ∨ (-(10 : Rat) ^ 272 ≤ x * a ∧ x * a ≤ -(1 / (10 : Rat) ^ 300)) := by
  have key : ∀ u v : Rat, 1 / (10 : Rat) ^ 271 ≤ u → u ≤ (10 : Rat) ^ 271 → 1 / 100 ≤ v → v ≤ 4 → 1 / (10 : Rat) ^ 300 ≤ u * v ∧ u * v ≤ (10 : Rat) ^ 272 := by
    intro u v h1 h2 h3 h4
    have n1 : (0 : Rat) ≤ 1 / (10 : Rat) ^ 271 := by decide +kernel
    have n2 : (1 : Rat) / (10 : Rat) ^ 300 ≤ 1 / (10 : Rat) ^ 271 * (1 / 100) := by decide +kernel
    have n3 : (10 : Rat) ^ 271 * 4 ≤ (10 : Rat) ^ 272 := by decide +kernel
    generalize (10 : Rat) ^ 271 = U at *
    generalize (10 : Rat) ^ 272 = V at *
    generalize (10 : Rat) ^ 300 = W at *
    generalize 1 / U = L at *
    generalize 1 / W = M at *
    have a1 := Rat.mul_nonneg (show 0 ≤ u - L by grind) (show 0 ≤ v - 1 / 100 by grind)
    have a2 := Rat.mul_nonneg n1 (show 0 ≤ v - 1 / 100 by grind)
    have a3 := Rat.mul_nonneg (show 0 ≤ U - u by grind) (show 0 ≤ v by grind)
    have a4 := Rat.mul_nonneg (show 0 ≤ U by grind) (show 0 ≤ 4 - v by grind)
    constructor <;> grind
  rcases h with h | ⟨h1, h2⟩ | ⟨h1, h2⟩
  · left; rw [h]; simp
  · rcases k with ⟨k1, k2⟩ | ⟨k1, k2⟩
    · right; left; exact key x a h1 h2 k1 k2
    · right; right
      have := key x (-a) h1 h2 (by grind) (by grind)
      rw [Rat.mul_neg] at this
      constructor <;> grind
  · rcases k with ⟨k1, k2⟩ | ⟨k1, k2⟩
    · right; right
      have := key (-x) a (by grind) (by grind) k1 k2
      rw [Rat.neg_mul] at this
      constructor <;> grind
    · right; left
      have := key (-x) (-a) (by grind) (by grind) (by grind) (by grind)
      rw [Rat.neg_mul, Rat.mul_neg, Rat.neg_neg] at this
      exact this

theorem t1 : (10 : Rat) ^ 272 * 1000 ≤ p2 1022 := Rat.le_trans (by decide +kernel : (10 : Rat) ^ 272 * 1000 ≤ (10 : Rat) ^ 300) huge_le
theorem t2 : (0 : Rat) < (10 : Rat) ^ 272 := by decide +kernel
theorem t3 : (1 : Rat) ≤ (10 : Rat) ^ 272 := by decide +kernel
theorem t4 : (0 : Rat) < 1 / (10 : Rat) ^ 300 := by decide +kernel

/-- The product and its two kin: negated and doubled. -/
theorem prod_scale {x a x1 x2 : Nat} (hx : FL.Fin x) (h1 : FL.Fin x1) (h2 : FL.Fin x2) (ha : FL.Fin a) (e1 : rv x1 = - rv x) (e2 : rv x2 = 2 * rv x) (sx : SC (rv x)) (sa : EN (rv a)) :
    ok .mul x a ∧ ok .mul x1 a ∧ ok .mul x2 a ∧ FL.Fin (fo .mul x a) ∧ FL.Fin (fo .mul x1 a) ∧ FL.Fin (fo .mul x2 a) ∧
    rv (fo .mul x1 a) = - rv (fo .mul x a) ∧ rv (fo .mul x2 a) = 2 * rv (fo .mul x a) ∧ -(2 * (10 : Rat) ^ 272) ≤ rv (fo .mul x a) ∧ rv (fo .mul x a) ≤ 2 * (10 : Rat) ^ 272 := by
  have hp := sc_mul sx sa
  have q1 := t1
  have q2 := t2
  have q3 := t3
  have q4 := t4
  have q5 := p2_1023
  have q6 := tiny_le
  have hu := u53_eq
  have he := eta_pos
  have hel := eta_le
  generalize hT : (10 : Rat) ^ 272 = T at *
  generalize hL : 1 / (10 : Rat) ^ 300 = L at *
  have d1 : rv x1 * rv a = -(rv x * rv a) := by rw [e1]; grind
  have d2 : rv x2 * rv a = 2 * (rv x * rv a) := by rw [e2]; grind
  obtain ⟨o0, r0, n0, -⟩ := fo_mul hx ha (by grind) (by grind)
  obtain ⟨o1, r1, n1, -⟩ := fo_mul h1 ha (by rw [d1]; grind) (by rw [d1]; grind)
  obtain ⟨o2, r2, n2, -⟩ := fo_mul h2 ha (by rw [d2]; grind) (by rw [d2]; grind)
  have er := r0.err T (by grind) (by grind)
  rw [hu] at er
  refine ⟨o0, o1, o2, r0.fin, r1.fin, r2.fin, n0.opp n1 d1 r0.fin, ?_, by grind, by grind⟩
  by_cases hz : rv x * rv a = 0
  · rw [hz] at n0 d2
    rw [n0.zero, show rv x2 * rv a = 0 by grind] at *
    rw [n2.zero]; grind
  · exact n0.dbl n2 d2 (Or.inr (by grind)) (by grind) (by grind)

/-- A sum and its two kin. -/
theorem sum_scale {p q p1 q1 p2' q2 : Nat} {B : Rat} (hp : FL.Fin p) (hq : FL.Fin q) (hp1 : FL.Fin p1) (hq1 : FL.Fin q1) (hp2 : FL.Fin p2') (hq2 : FL.Fin q2)
    (e1 : rv p1 = - rv p) (e2 : rv q1 = - rv q) (e3 : rv p2' = 2 * rv p) (e4 : rv q2 = 2 * rv q) (b1 : -B ≤ rv p + rv q) (b2 : rv p + rv q ≤ B) (hB : B ≤ p2 1022) (hB1 : 1 ≤ B) :
    ok .add p q ∧ ok .add p1 q1 ∧ ok .add p2' q2 ∧ FL.Fin (fo .add p q) ∧ FL.Fin (fo .add p1 q1) ∧ FL.Fin (fo .add p2' q2) ∧
    rv (fo .add p1 q1) = - rv (fo .add p q) ∧ rv (fo .add p2' q2) = 2 * rv (fo .add p q) ∧ -(2 * B) ≤ rv (fo .add p q) ∧ rv (fo .add p q) ≤ 2 * B := by
  have q5 := p2_1023
  have hu := u53_eq
  have he := eta_pos
  have hel := eta_le
  have d1 : rv p1 + rv q1 = -(rv p + rv q) := by rw [e1, e2]; grind
  have d2 : rv p2' + rv q2 = 2 * (rv p + rv q) := by rw [e3, e4]; grind
  obtain ⟨o0, r0, n0⟩ := fo_add hp hq (by grind) (by grind)
  obtain ⟨o1, r1, n1⟩ := fo_add hp1 hq1 (by rw [d1]; grind) (by rw [d1]; grind)
  obtain ⟨o2, r2, n2⟩ := fo_add hp2 hq2 (by rw [d2]; grind) (by rw [d2]; grind)
  have er := r0.err B b1 b2
  rw [hu] at er
  exact ⟨o0, o1, o2, r0.fin, r1.fin, r2.fin, n0.opp n1 d1 r0.fin, n0.dbl n2 d2 (Or.inl ((mult_rv hp).add (mult_rv hq))) (by grind) (by grind), by grind, by grind⟩

/-- A row and its two kin. -/
theorem row_scale {a b c x y z x1 y1 z1 x2 y2 z2 : Nat} (ha : FL.Fin a) (hb : FL.Fin b) (hc : FL.Fin c)
    (hx : FL.Fin x) (hy : FL.Fin y) (hz : FL.Fin z) (hx1 : FL.Fin x1) (hy1 : FL.Fin y1) (hz1 : FL.Fin z1) (hx2 : FL.Fin x2) (hy2 : FL.Fin y2) (hz2 : FL.Fin z2)
    (ex1 : rv x1 = - rv x) (ey1 : rv y1 = - rv y) (ez1 : rv z1 = - rv z) (ex2 : rv x2 = 2 * rv x) (ey2 : rv y2 = 2 * rv y) (ez2 : rv z2 = 2 * rv z)
    (sx : SC (rv x)) (sy : SC (rv y)) (sz : SC (rv z)) (sa : EN (rv a)) (sb : EN (rv b)) (sc : EN (rv c)) :
    rowOK a b c x y z ∧ rowOK a b c x1 y1 z1 ∧ rowOK a b c x2 y2 z2 ∧ FL.Fin (row a b c x y z) ∧ FL.Fin (row a b c x1 y1 z1) ∧ FL.Fin (row a b c x2 y2 z2) ∧
    rv (row a b c x1 y1 z1) = - rv (row a b c x y z) ∧ rv (row a b c x2 y2 z2) = 2 * rv (row a b c x y z) ∧
    -(20 * (10 : Rat) ^ 272) ≤ rv (row a b c x y z) ∧ rv (row a b c x y z) ≤ 20 * (10 : Rat) ^ 272 := by
  have q1 := t1
  have q2 := t2
  have q3 := t3
  obtain ⟨A0, A1, A2, A3, A4, A5, A6, A7, A8, A9⟩ := prod_scale hx hx1 hx2 ha ex1 ex2 sx sa
  obtain ⟨B0, B1, B2, B3, B4, B5, B6, B7, B8, B9⟩ := prod_scale hy hy1 hy2 hb ey1 ey2 sy sb
  obtain ⟨C0, C1, C2, C3, C4, C5, C6, C7, C8, C9⟩ := prod_scale hz hz1 hz2 hc ez1 ez2 sz sc
  generalize (10 : Rat) ^ 272 = T at *
  obtain ⟨D0, D1, D2, D3, D4, D5, D6, D7, D8, D9⟩ := sum_scale (B := 4 * T) A3 B3 A4 B4 A5 B5 A6 B6 A7 B7 (by grind) (by grind) (by grind) (by grind)
  obtain ⟨E0, E1, E2, E3, E4, E5, E6, E7, E8, E9⟩ := sum_scale (B := 10 * T) D3 C3 D4 C4 D5 C5 D6 C6 D7 C7 (by grind) (by grind) (by grind) (by grind)
  exact ⟨⟨A0, B0, C0, D0, E0⟩, ⟨A1, B1, C1, D1, E1⟩, ⟨A2, B2, C2, D2, E2⟩, E3, E4, E5, E6, E7, by unfold row; grind, by unfold row; grind⟩

/-- Twice a word. -/
theorem two_mul_ok {x : Nat} (hx : FL.Fin x) (b1 : -(20 * (10 : Rat) ^ 272) ≤ rv x) (b2 : rv x ≤ 20 * (10 : Rat) ^ 272) :
    ok .mul 4611686018427387904 x ∧ FL.Fin (fo .mul 4611686018427387904 x) ∧ rv (fo .mul 4611686018427387904 x) = 2 * rv x := by
  have q1 := t1
  have q2 := t2
  have q5 := p2_1023
  have hv : rv 4611686018427387904 = 2 := by decide +kernel
  have hf : FL.Fin 4611686018427387904 := by unfold FL.Fin; decide
  generalize (10 : Rat) ^ 272 = T at *
  obtain ⟨o, r, -, -⟩ := fo_mul hf hx (by rw [hv]; grind) (by rw [hv]; grind)
  obtain ⟨t, ht, et⟩ := rep_two hx (by grind) (by grind)
  refine ⟨o, r.fin, ?_⟩
  rw [hv] at r
  exact r.exact ht et
end Go.Proofs.Ytjmpbacgcclmlaa.F64
