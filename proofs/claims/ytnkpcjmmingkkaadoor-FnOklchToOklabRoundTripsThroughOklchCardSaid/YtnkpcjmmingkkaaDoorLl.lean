/- From the legs to chroma and hue and back: the words and what they miss. -/
import Derived.Test.YtnkpcjmmingkkaaDoorQd
import Derived.Test.YtnkpcjmmingkkaaDoorSq
namespace Go.Proofs.YtnkpcjmmingkkaaDoor.F64
open Go Go.RowKit Go.Lib Go.Proofs.YtnkpcjmmingkkaaDoor.FL
set_option linter.unusedVariables false
def wDG : Nat := 4633260481411531256
def w360 : Nat := 4645040803167600640
def wRD : Nat := 4580687790476533049
theorem fDG : FL.Fin 4633260481411531256 := by unfold FL.Fin; decide
theorem vDG : 572957795 / 10000000 ≤ rv 4633260481411531256 ∧ rv 4633260481411531256 ≤ 572957796 / 10000000 := by decide +kernel
theorem f360 : FL.Fin 4645040803167600640 := by unfold FL.Fin; decide
theorem v360 : rv 4645040803167600640 = 360 := by decide +kernel
theorem fRD : FL.Fin 4580687790476533049 := by unfold FL.Fin; decide
theorem vRD : 174532925 / 10000000000 ≤ rv 4580687790476533049 ∧ rv 4580687790476533049 ≤ 174532926 / 10000000000 := by decide +kernel
theorem vDR : -(1 / 1000000000000000) ≤ rv 4633260481411531256 * rv 4580687790476533049 - 1 ∧ rv 4633260481411531256 * rv 4580687790476533049 - 1 ≤ 1 / 1000000000000000 := by decide +kernel
theorem v3R : -(1 / 100000000000000) ≤ 360 * rv 4580687790476533049 - 8 * PL.p4 ∧ 360 * rv 4580687790476533049 - 8 * PL.p4 ≤ 1 / 100000000000000 := by decide +kernel
theorem eta300 : 1000 * eta ≤ 1 / 10 ^ 300 := by unfold eta p2; decide +kernel
theorem ab_sq (c : Rat) : PL.ab c * PL.ab c = c * c := by rcases ab_or c with h | h <;> rw [h] <;> grind
/-- The chroma's word. -/
structure Chro (a b aa bb ss cc : Nat) : Prop where
  h1 : floatBits .mul .f64 a a = some aa
  h2 : floatBits .mul .f64 b b = some bb
  h3 : floatBits .add .f64 aa bb = some ss
  h4 : Ieee.double.sqrt ss = some cc
  fin : FL.Fin cc
  lt : cc < 2 ^ 64
  rad : PL.Radius (PL.ab (rv a)) (PL.ab (rv b)) (rv cc)
theorem chro (a b : Nat) (fa : FL.Fin a) (fb : FL.Fin b) (M : Rat) (hM : M * M * 5 ≤ p2 1000) (a1 : -M ≤ rv a) (a2 : rv a ≤ M) (b1 : -M ≤ rv b) (b2 : rv b ≤ M) : ∃ aa bb ss cc, Chro a b aa bb ss cc ∧ rv cc * rv cc ≤ 5 * (M * M) + 1 := by
  have el := eta_le
  have ep := eta_pos
  have e3 := eta300
  have sqa := PL.sq_nn (rv a)
  have sqb := PL.sq_nn (rv b)
  have sqM := PL.sq_nn M
  have ma := mul_abs a1 a2 a1 a2
  have mb := mul_abs b1 b2 b1 b2
  have pp := p2_le (show (1000 : Int) ≤ 1023 by omega)
  obtain ⟨aa, h1, r1, -, -⟩ := mul_rnd fa fa (by grind) (by grind)
  obtain ⟨bb, h2, r2, -, -⟩ := mul_rnd fb fb (by grind) (by grind)
  have x1 := r1.err (rv a * rv a) (by grind) (by grind)
  have x2 := r2.err (rv b * rv b) (by grind) (by grind)
  rw [u53_eq] at x1 x2
  have n1 := r1.above 0 fZ (by rw [vZ]; exact sqa)
  have n2 := r2.above 0 fZ (by rw [vZ]; exact sqb)
  rw [vZ] at n1 n2
  have big : (1 : Rat) ≤ p2 1000 := by have := p2_le (show (0 : Int) ≤ 1000 by omega); rw [p2_zero] at this; exact this
  have big2 : 8 * p2 1000 ≤ p2 1023 := by
    have : p2 1003 = 8 * p2 1000 := by rw [show (1003 : Int) = 3 + 1000 by omega, p2_add]; congr 1
    have := p2_le (show (1003 : Int) ≤ 1023 by omega)
    grind
  obtain ⟨ss, h3, r3, -⟩ := add_rnd r1.fin r2.fin (by grind) (by grind)
  have x3 := r3.err (rv aa + rv bb) (by grind) (by grind)
  rw [u53_eq] at x3
  have n3 := r3.above 0 fZ (by rw [vZ]; grind)
  rw [vZ] at n3
  obtain ⟨cc, h4, l4, f4, c0, x4, x5⟩ := sqrt_rnd r3.fin n3 (by grind)
  have ea := ab_sq (rv a)
  have eb := ab_sq (rv b)
  have qc := PL.sq_nn (rv cc)
  refine ⟨aa, bb, ss, cc, ⟨h1, h2, h3, h4, f4, l4, ⟨c0, ?_, ?_⟩⟩, by grind⟩
  · rw [ea, eb]
    generalize (1 / 10 ^ 300 : Rat) = T at *
    grind
  · rw [ea, eb]
    generalize (1 / 10 ^ 300 : Rat) = T at *
    grind
/-- Near, with room. -/
def Nq9 (x y c : Rat) : Prop := -(c * (8 / 10000000000) + 1 / 100000000000000000000) ≤ x - y ∧ x - y ≤ c * (8 / 10000000000) + 1 / 100000000000000000000
/-- The hue's words: t of Atan2, h0 in degrees, hh in [0, 360], r back in radians. -/
structure HueW (y x t h0 hh r : Nat) : Prop where
  h1 : floatBits .mul .f64 t 4633260481411531256 = some h0
  h2 : if (FloatKind.f64.format.order h0 0 == some .lt) = true then floatBits .add .f64 h0 4645040803167600640 = some hh else hh = h0
  h3 : floatBits .mul .f64 hh 4580687790476533049 = some r
  fh : FL.Fin hh
  lh : hh < 2 ^ 64
  b1 : 0 ≤ rv hh
  b2 : rv hh ≤ 360
  fr : FL.Fin r
  lr : r < 2 ^ 64
  r1 : -256 ≤ rv r
  r2 : rv r ≤ 256
  ex : ∃ (q : Rat) (k : Int) (sx sy : Bool), PL.Ang (PL.ab (rv x)) (PL.ab (rv y)) q ∧ rv x = sgn sx (PL.ab (rv x)) ∧ rv y = sgn sy (PL.ab (rv y)) ∧ -(1 / 5000000000000) ≤ rv r - (th sx sy q + 8 * (k : Rat) * PL.p4) ∧ rv r - (th sx sy q + 8 * (k : Rat) * PL.p4) ≤ 1 / 5000000000000
theorem hueW (y x t : Nat) (ft : FL.Fin t) (ht : Turn y x (rv t)) : ∃ h0 hh r, HueW y x t h0 hh r := by
  have el := eta_le
  have ep := eta_pos
  have big := big_le
  obtain ⟨⟨q, k, sx, sy, A, hx, hy, e1, e2⟩, tb1, tb2⟩ := ht
  obtain ⟨D, hD⟩ : ∃ D, rv 4633260481411531256 = D := ⟨_, rfl⟩
  obtain ⟨R, hR⟩ : ∃ R, rv 4580687790476533049 = R := ⟨_, rfl⟩
  have vd := vDG
  have vr := vRD
  have vdr := vDR
  have v3 := v3R
  rw [hD] at vd vdr
  rw [hR] at vr vdr v3
  have md := mul_abs (x := rv t) (d := D) (X := 315 / 100) (E := 58) tb1 tb2 (by grind) (by grind)
  obtain ⟨h0, hh0, r0, -, -⟩ := mul_rnd ft fDG (by rw [hD]; grind) (by rw [hD]; grind)
  rw [hD] at r0
  have x0 := r0.err 183 (by grind) (by grind)
  rw [u53_eq] at x0
  have o0 : (FloatKind.f64.format.order h0 0 == some .lt) = decide (rv h0 < 0) := neg_order r0.fin
  have mr1 := mul_abs (x := rv h0 - rv t * D) (d := R) (X := 183 * (1 / 9007199254740992) + eta) (E := 18 / 1000) (by grind) (by grind) (by grind) (by grind)
  have mr2 := mul_abs (x := rv t) (d := D * R - 1) (X := 315 / 100) (E := 1 / 1000000000000000) tb1 tb2 vdr.1 vdr.2
  by_cases hn : rv h0 < 0
  · obtain ⟨hh, hhh, r1, -⟩ := add_rnd r0.fin f360 (by rw [v360]; grind) (by rw [v360]; grind)
    rw [v360] at r1
    have x1 := r1.err 360 (by grind) (by grind)
    rw [u53_eq] at x1
    have hle := r1.below 4645040803167600640 f360 (by rw [v360]; grind)
    rw [v360] at hle
    have mm := mul_abs (x := rv hh) (d := R) (X := 360) (E := 18 / 1000) (by grind) hle (by grind) (by grind)
    obtain ⟨r, hr, r2, -, -⟩ := mul_rnd r1.fin fRD (by rw [hR]; grind) (by rw [hR]; grind)
    rw [hR] at r2
    have x2 := r2.err 7 (by grind) (by grind)
    rw [u53_eq] at x2
    have mr3 := mul_abs (x := rv hh - (rv h0 + 360)) (d := R) (X := 360 * (1 / 9007199254740992) + eta) (E := 18 / 1000) (by grind) (by grind) (by grind) (by grind)
    have id : rv hh * R = (rv hh - (rv h0 + 360)) * R + (rv h0 - rv t * D) * R + rv t * (D * R - 1) + rv t + 360 * R := by grind
    refine ⟨h0, hh, r, ⟨hh0, by rw [if_pos (o0.trans (decide_eq_true hn))]; exact hhh, hr, r1.fin, r1.lt, by grind, hle, r2.fin, r2.lt, by grind, by grind, ⟨q, k + 1, sx, sy, A, hx, hy, ?_, ?_⟩⟩⟩
    · rw [Rat.intCast_add, q01]; grind
    · rw [Rat.intCast_add, q01]; grind
  · have mm := mul_abs (x := rv h0) (d := R) (X := 360) (E := 18 / 1000) (by grind) (by grind) (by grind) (by grind)
    obtain ⟨r, hr, r2, -, -⟩ := mul_rnd r0.fin fRD (by rw [hR]; grind) (by rw [hR]; grind)
    rw [hR] at r2
    have x2 := r2.err 7 (by grind) (by grind)
    rw [u53_eq] at x2
    have id : rv h0 * R = (rv h0 - rv t * D) * R + rv t * (D * R - 1) + rv t := by grind
    refine ⟨h0, h0, r, ⟨hh0, by rw [if_neg (by rw [o0, decide_eq_false hn]; decide)], hr, r0.fin, r0.lt, by grind, by grind, r2.fin, r2.lt, by grind, by grind, ⟨q, k, sx, sy, A, hx, hy, ?_, ?_⟩⟩⟩
    · grind
    · grind
/-- Back by cosine and sine. -/
theorem back {y x cc r c s : Nat} {t h0 hh : Nat} {Y : Int} {z : Rat} (hw : HueW y x t h0 hh r) (hr : PL.Radius (PL.ab (rv x)) (PL.ab (rv y)) (rv cc)) (fc : FL.Fin cc) (hc : rv cc ≤ 10000000) (ci : Circ r Y z c s) :
    ∃ p q, floatBits .mul .f64 c cc = some p ∧ floatBits .mul .f64 s cc = some q ∧ FL.Fin p ∧ FL.Fin q ∧ Nq9 (rv p) (rv x) (rv cc) ∧ Nq9 (rv q) (rv y) (rv cc) := by
  have el := eta_le
  have ep := eta_pos
  have big := big_le
  have pb := PL.p4_bd
  obtain ⟨qa, k, sx, sy, A, hx, hy, e1, e2⟩ := hw.ex
  have c0 := hr.c0
  have ev := ci.even
  have ho : (Y - 8 * k) % 8 = Y % 8 := by omega
  have cast : ((Y - 8 * k : Int) : Rat) = (Y : Rat) - 8 * (k : Rat) := by rw [Rat.intCast_sub, Rat.intCast_mul]; rfl
  have r1 := ci.r1
  have r2 := ci.r2
  have Q := quad (z := z) (sx := sx) (sy := sy) (Y := Y - 8 * k) (ab_nn (rv x)) (ab_nn (rv y)) A hr (by omega) (by have := ci.z1; grind) (by have := ci.z2; grind) (by rw [cast]; grind) (by rw [cast]; grind)
  rw [ho, ← hx, ← hy] at Q
  have cb := cosY_bd (o := Y % 8) z (by have := ci.z1; grind) (by have := ci.z2; grind)
  have sb := sinY_bd (o := Y % 8) z (by have := ci.z1; grind) (by have := ci.z2; grind)
  have cc1 := ci.c1
  have cc2 := ci.c2
  have ss1 := ci.s1
  have ss2 := ci.s2
  have t70 : (1 / 10 ^ 70 : Rat) ≤ 1 / 1000000000000000000000000 := by decide +kernel
  have mc := mul_abs (x := rv cc) (d := rv c - cosY (Y % 8) z) (X := rv cc) (E := 1 / 1000000000000) (by grind) (by grind) (by grind) (by grind)
  have ms := mul_abs (x := rv cc) (d := rv s - sinY (Y % 8) z) (X := rv cc) (E := 1 / 1000000000000) (by grind) (by grind) (by grind) (by grind)
  have mc2 := mul_abs (x := rv c) (d := rv cc) (X := 2) (E := rv cc) (by grind) (by grind) (by grind) (by grind)
  have ms2 := mul_abs (x := rv s) (d := rv cc) (X := 2) (E := rv cc) (by grind) (by grind) (by grind) (by grind)
  obtain ⟨p, hp, rp, -, -⟩ := mul_rnd ci.fc fc (by grind) (by grind)
  obtain ⟨q, hq, rq, -, -⟩ := mul_rnd ci.fs fc (by grind) (by grind)
  have xp := rp.err (2 * rv cc) (by grind) (by grind)
  have xq := rq.err (2 * rv cc) (by grind) (by grind)
  rw [u53_eq] at xp xq
  obtain ⟨⟨Q1, Q2⟩, Q3, Q4⟩ := Q
  generalize (1 / 10 ^ 70 : Rat) = T at *
  refine ⟨p, q, hp, hq, rp.fin, rq.fin, ⟨by grind, by grind⟩, by grind, by grind⟩
end Go.Proofs.YtnkpcjmmingkkaaDoor.F64
