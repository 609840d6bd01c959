/- From chroma and hue to the legs and back: the words and what they miss. -/
import Derived.Test.YtnkpcjmmingkkaaDoorTb
namespace Go.Proofs.YtnkpcjmmingkkaaDoor.F64
open Go Go.RowKit Go.Lib Go.Proofs.YtnkpcjmmingkkaaDoor.FL
set_option linter.unusedVariables false
/-- A small number's neighbours by squares. -/
theorem near_root {x c : Rat} (hx : 0 ≤ x) (hc : 0 < c) (h1 : -(c * c * (4 / 10000000000000)) ≤ x * x - c * c) (h2 : x * x - c * c ≤ c * c * (4 / 10000000000000)) : -(c * (4 / 10000000000000)) ≤ x - c ∧ x - c ≤ c * (4 / 10000000000000) := by
  constructor
  · apply Classical.byContradiction
    intro hn
    have a := Rat.mul_nonneg (show 0 ≤ -(c * (4 / 10000000000000)) - (x - c) by grind) hx
    have b := Rat.mul_pos (show 0 < -(c * (4 / 10000000000000)) - (x - c) by grind) hc
    have d := Rat.mul_nonneg (Rat.le_of_lt hc) hx
    grind
  · apply Classical.byContradiction
    intro hn
    have a := Rat.mul_nonneg (show 0 ≤ (x - c) - c * (4 / 10000000000000) by grind) hx
    have b := Rat.mul_pos (show 0 < (x - c) - c * (4 / 10000000000000) by grind) hc
    have d := Rat.mul_nonneg (Rat.le_of_lt hc) hx
    grind
theorem circ1 (o : Int) (z : Rat) (h1 : -(787 / 1000) ≤ z) (h2 : z ≤ 787 / 1000) : -(1 / 100000000000000) ≤ cosY o z * cosY o z + sinY o z * sinY o z - 1 ∧ cosY o z * cosY o z + sinY o z * sinY o z - 1 ≤ 1 / 100000000000000 := by
  have p := PL.p1 h1 h2
  unfold cosY sinY
  split
  · constructor <;> grind
  · split
    · constructor <;> grind
    · split <;> constructor <;> grind
/-- The legs' words. -/
theorem leg {v c : Nat} {y : Rat} (fv : FL.Fin v) (fc : FL.Fin c) (c1 : 1 / 10 ^ 101 ≤ rv c) (c2 : rv c ≤ 10 ^ 101) (y1 : -1 ≤ y) (y2 : y ≤ 1) (e1 : -(1 / 100000000000000) ≤ rv v - y) (e2 : rv v - y ≤ 1 / 100000000000000) : ∃ p, floatBits .mul .f64 v c = some p ∧ FL.Fin p ∧ p < 2 ^ 64 ∧ -(rv c * (2 / 100000000000000)) ≤ rv p - rv c * y ∧ rv p - rv c * y ≤ rv c * (2 / 100000000000000) := by
  have ep := eta_pos
  have e3 := eta300
  have t1 : (1 / 10 ^ 300 : Rat) ≤ 1 / 10 ^ 101 / 10 ^ 100 := by decide +kernel
  have t2 : (1 / 10 ^ 101 / 10 ^ 100 : Rat) ≤ 1 / 10 ^ 101 / 100000000000000000000 := by decide +kernel
  have big : 2 * (10 ^ 101 : Rat) ≤ p2 1023 := by unfold p2; decide +kernel
  have c0 : (0 : Rat) < 1 / 10 ^ 101 := by decide +kernel
  have m := mul_abs (x := rv v) (d := rv c) (X := 11 / 10) (E := rv c) (by grind) (by grind) (by grind) (by grind)
  have m2 := mul_abs (x := rv c) (d := rv v - y) (X := rv c) (E := 1 / 100000000000000) (by grind) (by grind) e1 e2
  obtain ⟨p, hp, r, -, -⟩ := mul_rnd fv fc (by grind) (by grind)
  have e := r.err (11 / 10 * rv c) (by grind) (by grind)
  rw [u53_eq] at e
  generalize (10 ^ 101 : Rat) = T at *
  exact ⟨p, hp, r.fin, r.lt, by grind, by grind⟩
/-- The chroma comes back. -/
theorem chro_back {p q cc : Nat} {c C S : Rat} (hr : PL.Radius (PL.ab (rv p)) (PL.ab (rv q)) (rv cc)) (c1 : 1 / 10 ^ 101 ≤ c) (C1 : -1 ≤ C) (C2 : C ≤ 1) (S1 : -1 ≤ S) (S2 : S ≤ 1) (o1 : -(1 / 100000000000000) ≤ C * C + S * S - 1) (o2 : C * C + S * S - 1 ≤ 1 / 100000000000000)
    (p1 : -(c * (2 / 100000000000000)) ≤ rv p - c * C) (p2 : rv p - c * C ≤ c * (2 / 100000000000000)) (q1 : -(c * (2 / 100000000000000)) ≤ rv q - c * S) (q2 : rv q - c * S ≤ c * (2 / 100000000000000)) : -(c * (4 / 10000000000000)) ≤ rv cc - c ∧ rv cc - c ≤ c * (4 / 10000000000000) := by
  have c0 : (0 : Rat) < 1 / 10 ^ 101 := by decide +kernel
  have cp : 0 < c := by grind
  have qc := Rat.mul_pos cp cp
  have s1 := hr.s1
  have s2 := hr.s2
  rw [ab_sq, ab_sq] at s1 s2
  have t300 : (1 / 10 ^ 300 : Rat) ≤ c * c * (1 / 100000000000000) := by
    have a := mul_abs (x := c) (d := c) (X := c) (E := c) (by grind) (by grind) (by grind) (by grind)
    have b := Rat.mul_nonneg (show 0 ≤ c - 1 / 10 ^ 101 by grind) (show 0 ≤ c + 1 / 10 ^ 101 by grind)
    have d : (1 / 10 ^ 300 : Rat) ≤ 1 / 10 ^ 101 * (1 / 10 ^ 101) * (1 / 100000000000000) := by decide +kernel
    grind
  generalize (1 / 10 ^ 300 : Rat) = T at *
  have cC := mul_abs (x := c) (d := C) (X := c) (E := 1) (by grind) (by grind) C1 C2
  have cS := mul_abs (x := c) (d := S) (X := c) (E := 1) (by grind) (by grind) S1 S2
  have u1 := mul_abs (x := rv p - c * C) (d := rv p + c * C) (X := c * (2 / 100000000000000)) (E := c * (21 / 10)) p1 p2 (by grind) (by grind)
  have u2 := mul_abs (x := rv q - c * S) (d := rv q + c * S) (X := c * (2 / 100000000000000)) (E := c * (21 / 10)) q1 q2 (by grind) (by grind)
  have u3 := mul_abs (x := c * c) (d := C * C + S * S - 1) (X := c * c) (E := 1 / 100000000000000) (by grind) (by grind) o1 o2
  have id1 : (rv p - c * C) * (rv p + c * C) = rv p * rv p - c * c * (C * C) := by grind
  have id2 : (rv q - c * S) * (rv q + c * S) = rv q * rv q - c * c * (S * S) := by grind
  have id3 : c * (2 / 100000000000000) * (c * (21 / 10)) = c * c * (42 / 1000000000000000) := by grind
  rw [id1, id3] at u1
  rw [id2, id3] at u2
  exact near_root hr.c0 cp (by grind) (by grind)
/-- Degrees of Atan2's angle. -/
theorem deg_of {t h0 hh : Nat} {T : Rat} (ft : FL.Fin t) (hT : rv t = T) (b1 : -(315 / 100) ≤ T) (b2 : T ≤ 315 / 100) (h1 : floatBits .mul .f64 t 4633260481411531256 = some h0) (h2 : if (FloatKind.f64.format.order h0 0 == some .lt) = true then floatBits .add .f64 h0 4645040803167600640 = some hh else hh = h0) :
    ∃ k : Int, 0 ≤ k ∧ k ≤ 1 ∧ -(1 / 1000000000000) ≤ rv hh - (T * rv 4633260481411531256 + 360 * (k : Rat)) ∧ rv hh - (T * rv 4633260481411531256 + 360 * (k : Rat)) ≤ 1 / 1000000000000 := by
  have el := eta_le
  have big := big_le
  have vd := vDG
  obtain ⟨D, hD⟩ : ∃ D, rv 4633260481411531256 = D := ⟨_, rfl⟩
  rw [hD] at vd ⊢
  have md := mul_abs (x := T) (d := D) (X := 315 / 100) (E := 58) b1 b2 (by grind) (by grind)
  obtain ⟨h0', hh0, r0, -, -⟩ := mul_rnd ft fDG (by rw [hD, hT]; grind) (by rw [hD, hT]; grind)
  obtain rfl : h0' = h0 := Option.some.inj (hh0.symm.trans h1)
  rw [hD, hT] at r0
  have x0 := r0.err 183 (by grind) (by grind)
  rw [u53_eq] at x0
  have o0 : (FloatKind.f64.format.order h0' 0 == some .lt) = decide (rv h0' < 0) := neg_order r0.fin
  by_cases hn : rv h0' < 0
  · rw [if_pos (o0.trans (decide_eq_true hn))] at h2
    obtain ⟨h', hhh, r1, -⟩ := add_rnd r0.fin f360 (by rw [v360]; grind) (by rw [v360]; grind)
    obtain rfl : h' = hh := Option.some.inj (hhh.symm.trans h2)
    rw [v360] at r1
    have x1 := r1.err 360 (by grind) (by grind)
    rw [u53_eq] at x1
    exact ⟨1, by decide, by decide, by rw [q01]; grind, by rw [q01]; grind⟩
  · rw [if_neg (by rw [o0, decide_eq_false hn]; decide)] at h2
    subst h2
    exact ⟨0, by decide, by decide, by rw [q00]; grind, by rw [q00]; grind⟩
theorem p4D : -(1 / 10000000000000) ≤ 8 * PL.p4 * rv 4633260481411531256 - 360 ∧ 8 * PL.p4 * rv 4633260481411531256 - 360 ≤ 1 / 10000000000000 := by decide +kernel
/-- The hue comes back, up to whole turns. -/
theorem hue_back {h r t hh : Rat} {z q : Rat} {Y k k1 k2 : Int} {sx sy : Bool} (h1 : -10000 ≤ h) (h2 : h ≤ 10000) (r1 : -(1 / 10000000000000) ≤ r - h * rv 4580687790476533049) (r2 : r - h * rv 4580687790476533049 ≤ 1 / 10000000000000)
    (z1 : -(1 / 10000000000000) ≤ z - (r - (Y : Rat) * PL.p4)) (z2 : z - (r - (Y : Rat) * PL.p4) ≤ 1 / 10000000000000)
    (t1 : -(14 / 100000000000) ≤ th sx sy q - (z + ((Y % 8 : Int) : Rat) * PL.p4 - 8 * (k : Rat) * PL.p4)) (t2 : th sx sy q - (z + ((Y % 8 : Int) : Rat) * PL.p4 - 8 * (k : Rat) * PL.p4) ≤ 14 / 100000000000)
    (u1 : -(1 / 100000000000000) ≤ t - (th sx sy q + 8 * (k2 : Rat) * PL.p4)) (u2 : t - (th sx sy q + 8 * (k2 : Rat) * PL.p4) ≤ 1 / 100000000000000) (tb1 : -(315 / 100) ≤ t) (tb2 : t ≤ 315 / 100)
    (k10 : 0 ≤ k1) (k11 : k1 ≤ 1) (w1 : -(1 / 1000000000000) ≤ hh - (t * rv 4633260481411531256 + 360 * (k1 : Rat))) (w2 : hh - (t * rv 4633260481411531256 + 360 * (k1 : Rat)) ≤ 1 / 1000000000000) :
    ∃ n : Int, -30 ≤ n ∧ n ≤ 30 ∧ -(82 / 10000000000) ≤ hh - (h + 360 * (n : Rat)) ∧ hh - (h + 360 * (n : Rat)) ≤ 82 / 10000000000 := by
  have pb := PL.p4_bd
  have vd := vDG
  have vr := vRD
  have vdr := vDR
  have pd := p4D
  obtain ⟨D, hD⟩ : ∃ D, rv 4633260481411531256 = D := ⟨_, rfl⟩
  obtain ⟨R, hR⟩ : ∃ R, rv 4580687790476533049 = R := ⟨_, rfl⟩
  rw [hD] at vd vdr pd w1 w2
  rw [hR] at vr vdr r1 r2
  obtain ⟨m, hm⟩ : ∃ m : Int, Y = Y % 8 + 8 * m := ⟨Y / 8, by omega⟩
  have cY : (Y : Rat) = ((Y % 8 : Int) : Rat) + 8 * (m : Rat) := by
    have : ((Y : Int) : Rat) = ((Y % 8 + 8 * m : Int) : Rat) := by rw [← hm]
    rw [this, Rat.intCast_add, Rat.intCast_mul]; rfl
  obtain ⟨N, hN⟩ : ∃ N : Int, k2 - k - m = N := ⟨_, rfl⟩
  have cN : (N : Rat) = (k2 : Rat) - (k : Rat) - (m : Rat) := by rw [← hN, Rat.intCast_sub, Rat.intCast_sub]
  -- radians
  have e1 : -(142 / 1000000000000) ≤ t - (h * R + 8 * (N : Rat) * PL.p4) := by rw [cN]; rw [cY] at z1 z2; grind
  have e2 : t - (h * R + 8 * (N : Rat) * PL.p4) ≤ 142 / 1000000000000 := by rw [cN]; rw [cY] at z1 z2; grind
  have hRb := mul_abs (x := h) (d := R) (X := 10000) (E := 18 / 1000) h1 h2 (by grind) (by grind)
  have i29 : (((29 : Int)) : Rat) = 29 := by rfl
  have im29 : (((-29 : Int)) : Rat) = -29 := by rfl
  have hNu : N ≤ 29 := by
    apply Classical.byContradiction
    intro hn
    have a : (((30 : Int)) : Rat) ≤ (N : Rat) := Rat.intCast_le_intCast.2 (by omega)
    rw [show (((30 : Int)) : Rat) = 30 by rfl] at a
    have := Rat.mul_nonneg (show 0 ≤ (N : Rat) - 30 by grind) (show 0 ≤ PL.p4 by grind)
    grind
  have hNl : -29 ≤ N := by
    apply Classical.byContradiction
    intro hn
    have a : (N : Rat) ≤ (((-30 : Int)) : Rat) := Rat.intCast_le_intCast.2 (by omega)
    rw [show (((-30 : Int)) : Rat) = -30 by rfl] at a
    have := Rat.mul_nonneg (show 0 ≤ -30 - (N : Rat) by grind) (show 0 ≤ PL.p4 by grind)
    grind
  have nb1 : -29 ≤ (N : Rat) := by rw [← im29]; exact Rat.intCast_le_intCast.2 hNl
  have nb2 : (N : Rat) ≤ 29 := by rw [← i29]; exact Rat.intCast_le_intCast.2 hNu
  -- degrees
  have f1 := mul_abs (x := t - (h * R + 8 * (N : Rat) * PL.p4)) (d := D) (X := 142 / 1000000000000) (E := 573 / 10) e1 e2 (by grind) (by grind)
  have f2 := mul_abs (x := h) (d := D * R - 1) (X := 10000) (E := 1 / 1000000000000000) h1 h2 vdr.1 vdr.2
  have f3 := mul_abs (x := (N : Rat)) (d := 8 * PL.p4 * D - 360) (X := 29) (E := 1 / 10000000000000) nb1 nb2 pd.1 pd.2
  have id : t * D = (t - (h * R + 8 * (N : Rat) * PL.p4)) * D + h * (D * R - 1) + h + (N : Rat) * (8 * PL.p4 * D - 360) + 360 * (N : Rat) := by grind
  refine ⟨N + k1, by omega, by omega, ?_, ?_⟩
  · rw [Rat.intCast_add]; grind
  · rw [Rat.intCast_add]; grind
end Go.Proofs.YtnkpcjmmingkkaaDoor.F64
