/- math.Cbrt: near the cube root. Plain numerics. -/
import Derived.Test.YtekideiinifffaaCb6
namespace Go.Proofs.Ytekideiinifffaa.CB
open Go Go.RowKit Go.Proofs.Ytekideiinifffaa.FL Go.Proofs.Ytekideiinifffaa.PO
set_option linter.unusedVariables false
theorem quot (A B : Rat) (h : 0 < B) : ∃ Q, Q * B = A := ⟨A / B, by rw [Rat.div_def, Rat.mul_assoc, Rat.inv_mul_cancel _ (by grind)]; grind⟩
theorem cbr {x t0 : Nat} {q : Int} {a y : Rat} (hx : V x y (3 * q)) (ht : V t0 a q) (y1 : 1 ≤ y) (y8 : y ≤ 8) (a1 : 9 / 10 ≤ a) (a2 : a ≤ 2) (lo : 9 / 10 * y ≤ a * a * a) (up : a * a * a ≤ 112 / 100 * y) (q1 : -400 ≤ q) (q2 : q ≤ 341) :
    ∃ t3 A3, CbW x t0 t3 ∧ V t3 A3 q ∧ -(1 / 100000000000 * y) ≤ A3 * A3 * A3 - y ∧ A3 * A3 * A3 - y ≤ 1 / 100000000000 * y := by
  have h0 := E15_0
  have hl := E15_1
  have c1 := cC_b
  have c2 := cD_b
  have c3 := cE_b
  have c4 := cF_b
  have c5 := cG_b
  have bA : -2 ≤ a ∧ a ≤ 2 := ⟨by grind, a2⟩
  have aa := abm bA bA
  obtain ⟨m1, e1, hm1, v1, er1⟩ := mulV (M := 5) ht ht (k := q + q) rfl (by omega) (by omega) (by grind) (by grind) (by grind)
  have s1 : Sm e1 := er15 er1 (by grind)
  obtain ⟨Q, hQ⟩ := quot (a * a + e1) y (by grind)
  have bQ : -5 ≤ Q ∧ Q ≤ 5 := cut (y := y) (by grind) (by rw [hQ]; unfold Sm at s1; grind) (by rw [hQ]; unfold Sm at s1; grind)
  obtain ⟨r, e2, hr, v2, er2⟩ := divV (M := 5) v1 hx (k := -q) (by omega) (by omega) (by omega) (by grind) (by grind) hQ bQ.1 bQ.2
  have s2 : Sm e2 := er15 er2 (by grind)
  obtain ⟨z0, hz⟩ := quot (a * a * a) y (by grind)
  obtain ⟨zb1, zb2⟩ := z_b y1 hz lo up
  have r0 := rl0 y1 (by grind) a2 s1 s2 hQ hz
  obtain ⟨m2, e3, hm2, v3, er3⟩ := mulV (M := 2) v2 ht (k := 0) (by omega) (by omega) (by omega) (by grind) (by grind) (by grind)
  have s3 : Sm e3 := er15 er3 (by grind)
  obtain ⟨s, e4, hs, v4, er4⟩ := addV (M := 2) (cV wC cC (by decide) fC vC) v3 (by omega) (by omega) (by grind) (by unfold Sm at s3; grind) (by unfold Sm at s3; grind)
  have s4 : Sm e4 := er15 er4 (by grind)
  obtain ⟨S, hS⟩ : ∃ S, cC + ((Q + e2) * a + e3) + e4 = S := ⟨_, rfl⟩
  rw [hS] at v4
  have hμ : S - cC = z0 + ((Q + e2) * a - z0 + e3 + e4) := by rw [← hS]; grind
  have bμ : -(6 * E15) ≤ (Q + e2) * a - z0 + e3 + e4 ∧ (Q + e2) * a - z0 + e3 + e4 ≤ 6 * E15 := by unfold Sm at s3 s4; constructor <;> grind
  have S1 : 144 / 100 ≤ S := by grind
  have S2 : S ≤ 167 / 100 := by grind
  obtain ⟨Q1, hQ1⟩ := quot cD S (by grind)
  have bQ1 : -(1 / 2) ≤ Q1 ∧ Q1 ≤ 1 / 2 := cut (y := S) (by grind) (by rw [hQ1]; grind) (by rw [hQ1]; grind)
  obtain ⟨d, e5, hd, v5, er5⟩ := divV (M := 1) (cV wD cD (by decide) fD vD) v4 (k := 0) (by omega) (by omega) (by omega) (by grind) (by grind) hQ1 (by grind) (by grind)
  have s5 : Sm e5 := er15 er5 (by grind)
  obtain ⟨e1w, e6, he1, v6, er6⟩ := addV (M := 4) v4 (cV wE cE (by decide) fE vE) (by omega) (by omega) (by grind) (by grind) (by grind)
  have s6 : Sm e6 := er15 er6 (by grind)
  obtain ⟨e2w, e7, he2, v7, er7⟩ := addV (M := 4) v6 v5 (by omega) (by omega) (by grind) (by unfold Sm at s5 s6; grind) (by unfold Sm at s5 s6; grind)
  have s7 : Sm e7 := er15 er7 (by grind)
  obtain ⟨T, hT⟩ : ∃ T, S + cE + e6 + (Q1 + e5) + e7 = T := ⟨_, rfl⟩
  rw [hT] at v7
  have bT : 2 ≤ T ∧ T ≤ 4 := by rw [← hT]; unfold Sm at s5 s6 s7; constructor <;> grind
  obtain ⟨Q2, hQ2⟩ := quot cF T (by grind)
  have bQ2 : -(9 / 10) ≤ Q2 ∧ Q2 ≤ 9 / 10 := cut (y := T) (by grind) (by rw [hQ2]; grind) (by rw [hQ2]; grind)
  have pQ2 : 0 ≤ Q2 := Rat.le_of_mul_le_mul_right (show 0 * T ≤ Q2 * T by rw [hQ2]; grind) (by grind)
  obtain ⟨f, e8, hf, v8, er8⟩ := divV (M := 1) (cV wF cF (by decide) fF vF) v7 (k := 0) (by omega) (by omega) (by omega) (by grind) (by grind) hQ2 (by grind) (by grind)
  have s8 : Sm e8 := er15 er8 (by grind)
  obtain ⟨g, e9, hg, v9, er9⟩ := addV (M := 2) (cV wG cG (by decide) fG vG) v8 (by omega) (by omega) (by grind) (by unfold Sm at s8; grind) (by unfold Sm at s8; grind)
  have s9 : Sm e9 := er15 er9 (by grind)
  obtain ⟨G, hG⟩ : ∃ G, cG + (Q2 + e8) + e9 = G := ⟨_, rfl⟩
  rw [hG] at v9
  have bG : 34 / 100 ≤ G ∧ G ≤ 2 := by rw [← hG]; unfold Sm at s8 s9; constructor <;> grind
  have k2 := rl2 S1 S2 s5 s6 s7 s8 s9 hQ1 hT.symm hQ2 hG.symm ⟨by grind, bG.2⟩
  have ag := abm (x := a) (X := 2) (d := G) (E := 2) bA ⟨by grind, bG.2⟩
  have agp : 3 / 10 ≤ a * G := by
    have := Rat.mul_le_mul_of_nonneg_right a1 (show 0 ≤ G by grind)
    grind
  obtain ⟨t1, e10, ht1, v10, er10⟩ := mulV (M := 5) ht v9 (k := q) (by omega) (by omega) (by omega) (by grind) (by grind) (by grind)
  have s10 : Sm e10 := er15 er10 (by grind)
  obtain ⟨A1, hA1⟩ : ∃ A, a * G + e10 = A := ⟨_, rfl⟩
  rw [hA1] at v10
  have A1p : 0 ≤ A1 := by unfold Sm at s10; grind
  have k3 := rl3 y1 (by grind) a2 hz zb1 zb2 hμ bμ S1 S2 k2 ⟨by grind, bG.2⟩ s10 hA1.symm
  have A1b : 9 / 10 ≤ A1 := by
    apply Classical.byContradiction
    intro hc
    have := cube_le A1p (show A1 ≤ 9 / 10 by grind)
    grind
  have A1u : A1 ≤ 3 := by
    apply Classical.byContradiction
    intro hc
    have := cube_le (show (0 : Rat) ≤ 3 by decide +kernel) (show 3 ≤ A1 by grind)
    grind
  obtain ⟨l1, l2, A, vA, cA1, cA2⟩ := chopV v10 A1b A1u q1 q2
  obtain ⟨k4, b1, b2⟩ := rl4 y1 y8 A1p k3 cA1 cA2
  clear k3 k2 r0 v10 v9 v8 v7 v6 v5 v4 v3 v2 v1 er1 er2 er3 er4 er5 er6 er7 er8 er9 er10 ag agp hG hT hS hA1
  have bAA : -3 ≤ A ∧ A ≤ 3 := ⟨by grind, by grind⟩
  have AA : 98 / 100 ≤ A * A ∧ A * A ≤ 5 := by
    have x1 := Rat.mul_nonneg (show 0 ≤ A - 99 / 100 by grind) (show 0 ≤ A + 99 / 100 by grind)
    have x2 := Rat.mul_nonneg (show 0 ≤ 201 / 100 - A by grind) (show 0 ≤ 201 / 100 + A by grind)
    constructor <;> grind
  have A3b : A * A * A ≤ 201 / 100 * (A * A) := by
    have := Rat.mul_nonneg (show 0 ≤ A * A by grind) (show 0 ≤ 201 / 100 - A by grind)
    grind
  obtain ⟨s2w, d1, hs2, w1, f1⟩ := mulV (M := 6) vA vA (k := q + q) rfl (by omega) (by omega) (by grind) (by grind) (by grind)
  have t1' : Sm d1 := er15 f1 (by grind)
  obtain ⟨Q3, hQ3⟩ := quot y (A * A + d1) (by unfold Sm at t1'; grind)
  have bQ3 : -3 ≤ Q3 ∧ Q3 ≤ 3 := cut (y := A * A + d1) (by unfold Sm at t1'; grind) (by rw [hQ3]; unfold Sm at t1'; grind) (by rw [hQ3]; unfold Sm at t1'; grind)
  have pQ3 : 0 ≤ Q3 := Rat.le_of_mul_le_mul_right (show 0 * (A * A + d1) ≤ Q3 * (A * A + d1) by rw [hQ3]; grind) (by unfold Sm at t1'; grind)
  obtain ⟨r2, d2, hr2, w2, f2⟩ := divV (M := 3) hx w1 (k := q) (by omega) (by omega) (by omega) (by grind) (by unfold Sm at t1'; grind) hQ3 bQ3.1 bQ3.2
  have t2' : Sm d2 := er15 f2 (by grind)
  obtain ⟨w, d4, hw, w3, f3⟩ := addV (M := 6) vA vA (by omega) (by omega) (by grind) (by grind) (by grind)
  have t4' : Sm d4 := er15 f3 (by grind)
  obtain ⟨R, hR⟩ : ∃ R, Q3 + d2 = R := ⟨_, rfl⟩
  rw [hR] at w2
  have bR : -(1 / 100) ≤ R ∧ R ≤ 31 / 10 := by rw [← hR]; unfold Sm at t2'; constructor <;> grind
  obtain ⟨n, d3, hn, w4, f4⟩ := subV (M := 6) w2 vA (by omega) (by omega) (by grind) (by grind) (by grind)
  have t3' : Sm d3 := er15 f4 (by grind)
  obtain ⟨m, d5, hm, w5, f5⟩ := addV (M := 8) w3 w2 (by omega) (by omega) (by grind) (by unfold Sm at t4'; grind) (by unfold Sm at t4'; grind)
  have t5' : Sm d5 := er15 f5 (by grind)
  obtain ⟨Q4, hQ4⟩ := quot (R - A + d3) (A + A + d4 + R + d5) (by unfold Sm at t4' t5'; grind)
  have bQ4 : -2 ≤ Q4 ∧ Q4 ≤ 2 := cut (y := A + A + d4 + R + d5) (by unfold Sm at t4' t5'; grind) (by rw [hQ4]; unfold Sm at t3' t4' t5'; grind) (by rw [hQ4]; unfold Sm at t3' t4' t5'; grind)
  obtain ⟨k, d6, hk, w6, f6⟩ := divV (M := 2) w4 w5 (k := 0) (by omega) (by omega) (by omega) (by grind) (by unfold Sm at t4' t5'; grind) hQ4 bQ4.1 bQ4.2
  have t6' : Sm d6 := er15 f6 (by grind)
  have pk := abm (x := A) (X := 201 / 100) (d := Q4 + d6) (E := 21 / 10) ⟨by grind, b2⟩ (by unfold Sm at t6'; constructor <;> grind)
  obtain ⟨p, d7, hp, w7, f7⟩ := mulV (M := 5) vA w6 (k := q) (by omega) (by omega) (by omega) (by grind) (by grind) (by grind)
  have t7' : Sm d7 := er15 f7 (by grind)
  obtain ⟨t3, d8, ht3, w8, f8⟩ := addV (M := 8) vA w7 (by omega) (by omega) (by grind) (by unfold Sm at t7'; grind) (by unfold Sm at t7'; grind)
  have t8' : Sm d8 := er15 f8 (by grind)
  have fin := rl5 y1 y8 k4 b1 b2 t1' t2' t3' t4' t5' t6' t7' t8' hQ3 hR.symm hQ4 rfl
  exact ⟨t3, _, ⟨m1, r, m2, s, d, e1w, e2w, f, g, t1, s2w, r2, w, n, m, k, p, hm1, hr, hm2, hs, hd, he1, he2, hf, hg, ht1, l1, l2, hs2, hr2, hw, hn, hm, hk, hp, ht3⟩, w8, fin.1, fin.2⟩
theorem p2_3 (q : Int) : p2 (3 * q) = p2 q * p2 q * p2 q := by rw [show 3 * q = q + q + q by omega, p2_add, p2_add]
/-- What the cube root's word is worth. -/
def Near3 (t x : Nat) : Prop := t < 2 ^ 64 ∧ FL.Fin t ∧ -(1 / 100000000000 * rv x) ≤ rv t * rv t * rv t - rv x ∧ rv t * rv t * rv t - rv x ≤ 1 / 100000000000 * rv x
theorem near_of {t x : Nat} {A y : Rat} {q : Int} (hx : V x y (3 * q)) (ht : V t A q) (h1 : -(1 / 100000000000 * y) ≤ A * A * A - y) (h2 : A * A * A - y ≤ 1 / 100000000000 * y) : Near3 t x := by
  obtain ⟨a, b, c⟩ := ht
  have p := p2_pos (3 * q)
  have e : rv t * rv t * rv t = (A * A * A) * p2 (3 * q) := by rw [c, p2_3]; grind
  refine ⟨a, b, ?_, ?_⟩
  · rw [e, hx.2.2]
    have := Rat.mul_le_mul_of_nonneg_right h1 (Rat.le_of_lt p)
    grind
  · rw [e, hx.2.2]
    have := Rat.mul_le_mul_of_nonneg_right h2 (Rat.le_of_lt p)
    grind
theorem cbN (x : Nat) (h1 : 4503599627370496 ≤ x) (hf : x < 9218868437227405312) : ∃ t, CbW x (x / 3 + BB) t ∧ Near3 t x := by
  obtain ⟨q, a, y, R⟩ := rough x h1 hf
  have hx : V x y (3 * q) := ⟨by omega, by unfold FL.Fin; omega, R.vx⟩
  have ht : V (x / 3 + BB) a q := ⟨by have := R.lt; omega, R.fin, R.va⟩
  have q1 := R.q1
  have q2 := R.q2
  obtain ⟨t, A, hw, hv, n1, n2⟩ := cbr hx ht R.y1 R.y8 R.a1 R.a2 R.lo R.up (by omega) (by omega)
  exact ⟨t, hw, near_of hx hv n1 n2⟩
end Go.Proofs.Ytekideiinifffaa.CB
