/- The way XYZ -> OKLab -> XYZ: how near it comes back. Plain Lean, but for the contract of Cbrt. -/
import Derived.Test.YtekideiinifffaaCbp
import Derived.Test.YtekideiinifffaaCbx
namespace Go.Proofs.Ytekideiinifffaa.F64
open Go Go.RowKit Go.Proofs.Ytekideiinifffaa.FL
set_option linter.unusedVariables false
theorem row_lt {a b c x y z : Nat} (h : rowOK a b c x y z) : row a b c x y z < 2 ^ 64 := by
  have := floatBits_wf (fo_some h.2.2.2.2)
  exact of_decide_eq_true this
theorem one_max (a B : Rat) (h1 : -B ≤ a * a * a) (h2 : a * a * a ≤ B) : ∃ b, 0 ≤ b ∧ -b ≤ a ∧ a ≤ b ∧ b * b * b ≤ B := by
  by_cases h : 0 ≤ a
  · exact ⟨a, h, by grind, by grind, h2⟩
  · exact ⟨-a, by grind, by grind, by grind, by grind⟩
theorem two_max {B b c : Rat} (hb : 0 ≤ b) (hc : 0 ≤ c) (b3 : b * b * b ≤ B) (c3 : c * c * c ≤ B) : ∃ d, 0 ≤ d ∧ b ≤ d ∧ c ≤ d ∧ d * d * d ≤ B := by
  rcases Rat.le_total (a := b) (b := c) with h | h
  · exact ⟨c, hc, h, by grind, c3⟩
  · exact ⟨b, hb, by grind, h, b3⟩
theorem three_max (a0 a1 a2 B : Rat) (h0 : -B ≤ a0 * a0 * a0) (k0 : a0 * a0 * a0 ≤ B) (h1 : -B ≤ a1 * a1 * a1) (k1 : a1 * a1 * a1 ≤ B) (h2 : -B ≤ a2 * a2 * a2) (k2 : a2 * a2 * a2 ≤ B) :
    ∃ A, 0 ≤ A ∧ -A ≤ a0 ∧ a0 ≤ A ∧ -A ≤ a1 ∧ a1 ≤ A ∧ -A ≤ a2 ∧ a2 ≤ A ∧ A * A * A ≤ B := by
  obtain ⟨b0, n0, x0, y0, z0⟩ := one_max a0 B h0 k0
  obtain ⟨b1, n1, x1, y1, z1⟩ := one_max a1 B h1 k1
  obtain ⟨b2, n2, x2, y2, z2⟩ := one_max a2 B h2 k2
  obtain ⟨d, nd, p0, p1, zd⟩ := two_max n0 n1 z0 z1
  obtain ⟨A, nA, q0, q1, zA⟩ := two_max nd n2 zd z2
  exact ⟨A, nA, by grind, by grind, by grind, by grind, by grind, by grind, zA⟩
/-- What the way there and back gives. -/
structure Back (x y z a b c : Nat) (m : Rat) : Prop where
  xi : XiOK x y z
  xo : XoOK a b c
  ok : OkOK (v0 a b c) (v1 a b c) (v2 a b c)
  ca : ∀ w : World, Calls Try.prog 19 #[.agg #[.float .f64 (u0 x y z)]] w fun e w' => e = .returned (.agg #[.float .f64 a]) ∧ Below w.heap.size w w'
  cb : ∀ w : World, Calls Try.prog 19 #[.agg #[.float .f64 (u1 x y z)]] w fun e w' => e = .returned (.agg #[.float .f64 b]) ∧ Below w.heap.size w w'
  cc : ∀ w : World, Calls Try.prog 19 #[.agg #[.float .f64 (u2 x y z)]] w fun e w' => e = .returned (.agg #[.float .f64 c]) ∧ Below w.heap.size w w'
  f0 : FL.Fin (q0 (v0 a b c) (v1 a b c) (v2 a b c))
  f1 : FL.Fin (q1 (v0 a b c) (v1 a b c) (v2 a b c))
  f2 : FL.Fin (q2 (v0 a b c) (v1 a b c) (v2 a b c))
  e0 : -(m * (1 / 10000000000) + 100000000000 * eta) ≤ rv (q0 (v0 a b c) (v1 a b c) (v2 a b c)) - rv x ∧ rv (q0 (v0 a b c) (v1 a b c) (v2 a b c)) - rv x ≤ m * (1 / 10000000000) + 100000000000 * eta
  e1 : -(m * (1 / 10000000000) + 100000000000 * eta) ≤ rv (q1 (v0 a b c) (v1 a b c) (v2 a b c)) - rv y ∧ rv (q1 (v0 a b c) (v1 a b c) (v2 a b c)) - rv y ≤ m * (1 / 10000000000) + 100000000000 * eta
  e2 : -(m * (1 / 10000000000) + 100000000000 * eta) ≤ rv (q2 (v0 a b c) (v1 a b c) (v2 a b c)) - rv z ∧ rv (q2 (v0 a b c) (v1 a b c) (v2 a b c)) - rv z ≤ m * (1 / 10000000000) + 100000000000 * eta
theorem u_bd {k0 k1 k2 x y z X S α β γ : Rat} (x1 : -X ≤ x) (x2 : x ≤ X) (y1 : -X ≤ y) (y2 : y ≤ X) (z1 : -X ≤ z) (z2 : z ≤ X)
    (a1 : -α ≤ k0) (a2 : k0 ≤ α) (b1 : -β ≤ k1) (b2 : k1 ≤ β) (c1 : -γ ≤ k2) (c2 : k2 ≤ γ) (hS : α + β + γ ≤ S) : -(S * X) ≤ k0 * x + k1 * y + k2 * z ∧ k0 * x + k1 * y + k2 * z ≤ S * X := by
  have X0 : 0 ≤ X := by grind
  have t1 := mul_bd x1 x2 a1 a2
  have t2 := mul_bd y1 y2 b1 b2
  have t3 := mul_bd z1 z2 c1 c2
  have s1 := Rat.mul_nonneg X0 (show 0 ≤ S - (α + β + γ) by grind)
  constructor <;> grind
theorem cb_bd {t u : Nat} {U : Rat} (h : CB.Cb t u) (h1 : -U ≤ rv u) (h2 : rv u ≤ U) : -(U * (1 + 1 / 100000000000)) ≤ rv t * rv t * rv t ∧ rv t * rv t * rv t ≤ U * (1 + 1 / 100000000000) ∧
    -(U * (1 / 100000000000)) ≤ rv t * rv t * rv t - rv u ∧ rv t * rv t * rv t - rv u ≤ U * (1 / 100000000000) := by
  obtain ⟨-, -, r, r1, r2, e⟩ := h
  have k := mul_bd h1 h2 r1 r2
  rw [e]
  refine ⟨?_, ?_, ?_, ?_⟩ <;> grind
theorem cub_step {p : Nat} {t T B : Rat} (hp : FL.Fin p) (t1 : -T ≤ t) (t2 : t ≤ T) (d1 : -(T * (1 / 10000000000000) + 200 * eta) ≤ rv p - t) (d2 : rv p - t ≤ T * (1 / 10000000000000) + 200 * eta)
    (hT2 : T ≤ 1000) (hB : T * T * T ≤ B) :
    cubOK p ∧ FL.Fin (cub p) ∧ -(B * (5 / 10000000000000) + 10000000000 * eta) ≤ rv (cub p) - t * t * t ∧ rv (cub p) - t * t * t ≤ B * (5 / 10000000000000) + 10000000000 * eta := by
  obtain ⟨a, b, c, d⟩ := cubB hp t1 t2 d1 d2 hT2
  exact ⟨a, b, by grind, by grind⟩
theorem mkE {r L e : Rat} (c : Rat) (h : r = L + e) : c = L + (c - r + e) := by rw [h]; grind
theorem round {x y z : Nat} {m : Rat} (hx : FL.Fin x) (hy : FL.Fin y) (hz : FL.Fin z) (x1 : -m ≤ rv x) (x2 : rv x ≤ m) (y1 : -m ≤ rv y) (y2 : rv y ≤ m) (z1 : -m ≤ rv z) (z2 : rv z ≤ m) (hm : m ≤ 1000) : ∃ a b c, Back x y z a b c m := by
  have he := eta_pos
  have hel := eta_le
  have m0 : 0 ≤ m := by grind
  obtain ⟨ok0, fu0, e0, hu0, el0, eu0⟩ := rM0 hx hy hz x1 x2 y1 y2 z1 z2 (by grind)
  obtain ⟨ok1, fu1, e1, hu1, el1, eu1⟩ := rM1 hx hy hz x1 x2 y1 y2 z1 z2 (by grind)
  obtain ⟨ok2, fu2, e2, hu2, el2, eu2⟩ := rM2 hx hy hz x1 x2 y1 y2 z1 z2 (by grind)
  obtain ⟨a, ha, ca⟩ := CB.cbrtV _ (row_lt ok0) fu0
  obtain ⟨b, hb, cb⟩ := CB.cbrtV _ (row_lt ok1) fu1
  obtain ⟨c, hc, cc⟩ := CB.cbrtV _ (row_lt ok2) fu2
  refine ⟨a, b, c, ?_⟩
  have bu0 : -(132 / 100 * m + 9 * eta) ≤ rv (u0 x y z) ∧ rv (u0 x y z) ≤ 132 / 100 * m + 9 * eta := by
    show -(132 / 100 * m + 9 * eta) ≤ rv (row _ _ _ x y z) ∧ rv (row _ _ _ x y z) ≤ 132 / 100 * m + 9 * eta
    rw [hu0]; constructor <;> grind
  have bu1 : -(132 / 100 * m + 9 * eta) ≤ rv (u1 x y z) ∧ rv (u1 x y z) ≤ 132 / 100 * m + 9 * eta := by
    show -(132 / 100 * m + 9 * eta) ≤ rv (row _ _ _ x y z) ∧ rv (row _ _ _ x y z) ≤ 132 / 100 * m + 9 * eta
    rw [hu1]; constructor <;> grind
  have bu2 : -(132 / 100 * m + 9 * eta) ≤ rv (u2 x y z) ∧ rv (u2 x y z) ≤ 132 / 100 * m + 9 * eta := by
    show -(132 / 100 * m + 9 * eta) ≤ rv (row _ _ _ x y z) ∧ rv (row _ _ _ x y z) ≤ 132 / 100 * m + 9 * eta
    rw [hu2]; constructor <;> grind
  obtain ⟨A0, A1, A2, A3⟩ := cb_bd ha bu0.1 bu0.2
  obtain ⟨B0, B1, B2, B3⟩ := cb_bd hb bu1.1 bu1.2
  obtain ⟨C0, C1, C2, C3⟩ := cb_bd hc bu2.1 bu2.2
  obtain ⟨T, T0, ta1, ta2, tb1, tb2, tc1, tc2, T3⟩ := three_max _ _ _ _ A0 A1 B0 B1 C0 C1
  have Tb : T ≤ 20 := by
    apply Classical.byContradiction
    intro hn
    have := CB.cube_le (show (0 : Rat) ≤ 20 by decide +kernel) (show 20 ≤ T by grind)
    grind
  have ta := ha.2.1
  have tb := hb.2.1
  have tc := hc.2.1
  clear A0 A1 B0 B1 C0 C1
  obtain ⟨n0, fn0, g0, hg0, gl0, gu0⟩ := rN0 ta tb tc ta1 ta2 tb1 tb2 tc1 tc2 (by grind)
  obtain ⟨n1, fn1, g1, hg1, gl1, gu1⟩ := rN1 ta tb tc ta1 ta2 tb1 tb2 tc1 tc2 (by grind)
  obtain ⟨n2, fn2, g2, hg2, gl2, gu2⟩ := rN2 ta tb tc ta1 ta2 tb1 tb2 tc1 tc2 (by grind)
  have bv0 : -(5 * T + 9 * eta) ≤ rv (v0 a b c) ∧ rv (v0 a b c) ≤ 5 * T + 9 * eta := by
    show -(5 * T + 9 * eta) ≤ rv (row _ _ _ a b c) ∧ rv (row _ _ _ a b c) ≤ 5 * T + 9 * eta
    rw [hg0]; constructor <;> grind
  have bv1 : -(5 * T + 9 * eta) ≤ rv (v1 a b c) ∧ rv (v1 a b c) ≤ 5 * T + 9 * eta := by
    show -(5 * T + 9 * eta) ≤ rv (row _ _ _ a b c) ∧ rv (row _ _ _ a b c) ≤ 5 * T + 9 * eta
    rw [hg1]; constructor <;> grind
  have bv2 : -(5 * T + 9 * eta) ≤ rv (v2 a b c) ∧ rv (v2 a b c) ≤ 5 * T + 9 * eta := by
    show -(5 * T + 9 * eta) ≤ rv (row _ _ _ a b c) ∧ rv (row _ _ _ a b c) ≤ 5 * T + 9 * eta
    rw [hg2]; constructor <;> grind
  obtain ⟨k0, fk0, h0, hh0, hl0, hr0⟩ := rK0 (x := v0 a b c) (y := v1 a b c) (z := v2 a b c) fn0 fn1 fn2 bv0.1 bv0.2 bv1.1 bv1.2 bv2.1 bv2.2 (by grind)
  obtain ⟨k1, fk1, h1, hh1, hl1, hr1⟩ := rK1 (x := v0 a b c) (y := v1 a b c) (z := v2 a b c) fn0 fn1 fn2 bv0.1 bv0.2 bv1.1 bv1.2 bv2.1 bv2.2 (by grind)
  obtain ⟨k2, fk2, h2, hh2, hl2, hr2⟩ := rK2 (x := v0 a b c) (y := v1 a b c) (z := v2 a b c) fn0 fn1 fn2 bv0.1 bv0.2 bv1.1 bv1.2 bv2.1 bv2.2 (by grind)
  have d0 := bK0 hg0 hg1 hg2 hh0 ta1 ta2 tb1 tb2 tc1 tc2 gl0 gu0 gl1 gu1 gl2 gu2 hl0 hr0
  have d1 := bK1 hg0 hg1 hg2 hh1 ta1 ta2 tb1 tb2 tc1 tc2 gl0 gu0 gl1 gu1 gl2 gu2 hl1 hr1
  have d2 := bK2 hg0 hg1 hg2 hh2 ta1 ta2 tb1 tb2 tc1 tc2 gl0 gu0 gl1 gu1 gl2 gu2 hl2 hr2
  clear hg0 hg1 hg2 hh0 hh1 hh2 gl0 gu0 gl1 gu1 gl2 gu2 hl0 hr0 hl1 hr1 hl2 hr2 bv0 bv1 bv2
  obtain ⟨o0, F0, c01, c02⟩ := cub_step fk0 ta1 ta2 (by grind) (by grind) (by grind) T3
  obtain ⟨o1, F1, c11, c12⟩ := cub_step fk1 tb1 tb2 (by grind) (by grind) (by grind) T3
  obtain ⟨o2, F2, c21, c22⟩ := cub_step fk2 tc1 tc2 (by grind) (by grind) (by grind) T3
  clear d0 d1 d2 T3
  have w0 : -(m * (145 / 10000000000000) + 20000000000 * eta) ≤ rv (cub (p0 (v0 a b c) (v1 a b c) (v2 a b c))) - rv (u0 x y z) + e0 ∧ rv (cub (p0 (v0 a b c) (v1 a b c) (v2 a b c))) - rv (u0 x y z) + e0 ≤ m * (145 / 10000000000000) + 20000000000 * eta := by
    have X1 : -((132 / 100 * m + 9 * eta) * (1 + 1 / 100000000000) * (5 / 10000000000000) + 10000000000 * eta) ≤ rv (cub (p0 (v0 a b c) (v1 a b c) (v2 a b c))) - rv a * rv a * rv a := c01
    have X2 : rv (cub (p0 (v0 a b c) (v1 a b c) (v2 a b c))) - rv a * rv a * rv a ≤ (132 / 100 * m + 9 * eta) * (1 + 1 / 100000000000) * (5 / 10000000000000) + 10000000000 * eta := c02
    have X3 : -((132 / 100 * m + 9 * eta) * (1 / 100000000000)) ≤ rv a * rv a * rv a - rv (u0 x y z) := A2
    have X4 : rv a * rv a * rv a - rv (u0 x y z) ≤ (132 / 100 * m + 9 * eta) * (1 / 100000000000) := A3
    constructor <;> grind
  have zz0 : -(2 * m + 30000000000 * eta) ≤ rv (cub (p0 (v0 a b c) (v1 a b c) (v2 a b c))) ∧ rv (cub (p0 (v0 a b c) (v1 a b c) (v2 a b c))) ≤ 2 * m + 30000000000 * eta := by constructor <;> grind
  have yy0 := mkE (rv (cub (p0 (v0 a b c) (v1 a b c) (v2 a b c)))) hu0
  have w1 : -(m * (145 / 10000000000000) + 20000000000 * eta) ≤ rv (cub (p1 (v0 a b c) (v1 a b c) (v2 a b c))) - rv (u1 x y z) + e1 ∧ rv (cub (p1 (v0 a b c) (v1 a b c) (v2 a b c))) - rv (u1 x y z) + e1 ≤ m * (145 / 10000000000000) + 20000000000 * eta := by
    have X1 : -((132 / 100 * m + 9 * eta) * (1 + 1 / 100000000000) * (5 / 10000000000000) + 10000000000 * eta) ≤ rv (cub (p1 (v0 a b c) (v1 a b c) (v2 a b c))) - rv b * rv b * rv b := c11
    have X2 : rv (cub (p1 (v0 a b c) (v1 a b c) (v2 a b c))) - rv b * rv b * rv b ≤ (132 / 100 * m + 9 * eta) * (1 + 1 / 100000000000) * (5 / 10000000000000) + 10000000000 * eta := c12
    have X3 : -((132 / 100 * m + 9 * eta) * (1 / 100000000000)) ≤ rv b * rv b * rv b - rv (u1 x y z) := B2
    have X4 : rv b * rv b * rv b - rv (u1 x y z) ≤ (132 / 100 * m + 9 * eta) * (1 / 100000000000) := B3
    constructor <;> grind
  have zz1 : -(2 * m + 30000000000 * eta) ≤ rv (cub (p1 (v0 a b c) (v1 a b c) (v2 a b c))) ∧ rv (cub (p1 (v0 a b c) (v1 a b c) (v2 a b c))) ≤ 2 * m + 30000000000 * eta := by constructor <;> grind
  have yy1 := mkE (rv (cub (p1 (v0 a b c) (v1 a b c) (v2 a b c)))) hu1
  have w2 : -(m * (145 / 10000000000000) + 20000000000 * eta) ≤ rv (cub (p2 (v0 a b c) (v1 a b c) (v2 a b c))) - rv (u2 x y z) + e2 ∧ rv (cub (p2 (v0 a b c) (v1 a b c) (v2 a b c))) - rv (u2 x y z) + e2 ≤ m * (145 / 10000000000000) + 20000000000 * eta := by
    have X1 : -((132 / 100 * m + 9 * eta) * (1 + 1 / 100000000000) * (5 / 10000000000000) + 10000000000 * eta) ≤ rv (cub (p2 (v0 a b c) (v1 a b c) (v2 a b c))) - rv c * rv c * rv c := c21
    have X2 : rv (cub (p2 (v0 a b c) (v1 a b c) (v2 a b c))) - rv c * rv c * rv c ≤ (132 / 100 * m + 9 * eta) * (1 + 1 / 100000000000) * (5 / 10000000000000) + 10000000000 * eta := c22
    have X3 : -((132 / 100 * m + 9 * eta) * (1 / 100000000000)) ≤ rv c * rv c * rv c - rv (u2 x y z) := C2
    have X4 : rv c * rv c * rv c - rv (u2 x y z) ≤ (132 / 100 * m + 9 * eta) * (1 / 100000000000) := C3
    constructor <;> grind
  have zz2 : -(2 * m + 30000000000 * eta) ≤ rv (cub (p2 (v0 a b c) (v1 a b c) (v2 a b c))) ∧ rv (cub (p2 (v0 a b c) (v1 a b c) (v2 a b c))) ≤ 2 * m + 30000000000 * eta := by constructor <;> grind
  have yy2 := mkE (rv (cub (p2 (v0 a b c) (v1 a b c) (v2 a b c)))) hu2
  obtain ⟨l0, fl0, i0, hi0, il0, iu0⟩ := rL0 (x := cub (p0 (v0 a b c) (v1 a b c) (v2 a b c))) (y := cub (p1 (v0 a b c) (v1 a b c) (v2 a b c))) (z := cub (p2 (v0 a b c) (v1 a b c) (v2 a b c))) F0 F1 F2 zz0.1 zz0.2 zz1.1 zz1.2 zz2.1 zz2.2 (by grind)
  obtain ⟨l1, fl1, i1, hi1, il1, iu1⟩ := rL1 (x := cub (p0 (v0 a b c) (v1 a b c) (v2 a b c))) (y := cub (p1 (v0 a b c) (v1 a b c) (v2 a b c))) (z := cub (p2 (v0 a b c) (v1 a b c) (v2 a b c))) F0 F1 F2 zz0.1 zz0.2 zz1.1 zz1.2 zz2.1 zz2.2 (by grind)
  obtain ⟨l2, fl2, i2, hi2, il2, iu2⟩ := rL2 (x := cub (p0 (v0 a b c) (v1 a b c) (v2 a b c))) (y := cub (p1 (v0 a b c) (v1 a b c) (v2 a b c))) (z := cub (p2 (v0 a b c) (v1 a b c) (v2 a b c))) F0 F1 F2 zz0.1 zz0.2 zz1.1 zz1.2 zz2.1 zz2.2 (by grind)
  have D0 := bL0 yy0 yy1 yy2 hi0 x1 x2 y1 y2 z1 z2 w0.1 w0.2 w1.1 w1.2 w2.1 w2.2 il0 iu0
  have D1 := bL1 yy0 yy1 yy2 hi1 x1 x2 y1 y2 z1 z2 w0.1 w0.2 w1.1 w1.2 w2.1 w2.2 il1 iu1
  have D2 := bL2 yy0 yy1 yy2 hi2 x1 x2 y1 y2 z1 z2 w0.1 w0.2 w1.1 w1.2 w2.1 w2.2 il2 iu2
  clear yy0 yy1 yy2 w0 w1 w2 hu0 hu1 hu2 A2 A3 B2 B3 C2 C3 c01 c02 c11 c12 c21 c22 hi0 hi1 hi2
  exact { xi := ⟨ok0, ok1, ok2⟩, xo := ⟨n0, n1, n2⟩, ok := ⟨k0, k1, k2, o0, o1, o2, l0, l1, l2⟩, ca := ca, cb := cb, cc := cc, f0 := fl0, f1 := fl1, f2 := fl2,
           e0 := ⟨Rat.le_trans (by grind) D0.1, Rat.le_trans D0.2 (by grind)⟩, e1 := ⟨Rat.le_trans (by grind) D1.1, Rat.le_trans D1.2 (by grind)⟩, e2 := ⟨Rat.le_trans (by grind) D2.1, Rat.le_trans D2.2 (by grind)⟩ }
end Go.Proofs.Ytekideiinifffaa.F64
