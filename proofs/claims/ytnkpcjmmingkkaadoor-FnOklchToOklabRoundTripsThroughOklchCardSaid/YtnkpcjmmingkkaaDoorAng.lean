/- Angles over the rationals: what Go's arc tangent's angle is to its two legs, and back by sine and cosine. Of no program. -/
import Derived.Test.YtnkpcjmmingkkaaDoorPm
namespace Go.Proofs.YtnkpcjmmingkkaaDoor.PL
set_option linter.unusedVariables false
theorem Sv_neg (y : Rat) : Sv (-y) = -Sv y := by
  unfold Sv
  have : -y * -y = y * y := by grind
  rw [this]; grind
theorem Cv_neg (y : Rat) : Cv (-y) = Cv y := by
  unfold Cv
  have : -y * -y = y * y := by grind
  rw [this]
theorem sq_nn (x : Rat) : 0 ≤ x * x := by
  rcases Rat.le_total (a := 0) (b := x) with h | h
  · exact Rat.mul_nonneg h h
  · have := Rat.mul_nonneg (show 0 ≤ -x by grind) (show 0 ≤ -x by grind); grind
theorem p4_bd : (7853981 / 10000000 : Rat) ≤ p4 ∧ p4 ≤ 7853982 / 10000000 := by decide +kernel
theorem lipS2 : lip SY (13 / 10) ≤ 2 := by decide +kernel
theorem lipC2 : lip CY (13 / 10) ≤ 2 := by decide +kernel
theorem bdS : bd SY (8 / 10) ≤ 1 := by decide +kernel
theorem bdC : bd CY (8 / 10) ≤ 3 / 2 := by decide +kernel
theorem Sv_lip {a b e : Rat} (a1 : -(13 / 10) ≤ a) (a2 : a ≤ 13 / 10) (b1 : -(13 / 10) ≤ b) (b2 : b ≤ 13 / 10) (h0 : 0 ≤ e) (h1 : -e ≤ a - b) (h2 : a - b ≤ e) : -(2 * e) ≤ Sv a - Sv b ∧ Sv a - Sv b ≤ 2 * e := by
  have h := ev_lip a1 a2 b1 b2 h1 h2 SY
  rw [← Sv_ev, ← Sv_ev] at h
  have k := lipS2
  generalize lip SY (13 / 10) = L at *
  have := Rat.mul_le_mul_of_nonneg_left k h0
  constructor <;> grind
theorem Cv_lip {a b e : Rat} (a1 : -(13 / 10) ≤ a) (a2 : a ≤ 13 / 10) (b1 : -(13 / 10) ≤ b) (b2 : b ≤ 13 / 10) (h0 : 0 ≤ e) (h1 : -e ≤ a - b) (h2 : a - b ≤ e) : -(2 * e) ≤ Cv a - Cv b ∧ Cv a - Cv b ≤ 2 * e := by
  have h := ev_lip a1 a2 b1 b2 h1 h2 CY
  rw [← Cv_ev, ← Cv_ev] at h
  have k := lipC2
  generalize lip CY (13 / 10) = L at *
  have := Rat.mul_le_mul_of_nonneg_left k h0
  constructor <;> grind
theorem Sv_bd {y : Rat} (h1 : -(8 / 10) ≤ y) (h2 : y ≤ 8 / 10) : -1 ≤ Sv y ∧ Sv y ≤ 1 := by
  have h := ev_bd h1 h2 SY
  have := bdS
  rw [← Sv_ev] at h
  constructor <;> grind
theorem Cv_bd {y : Rat} (h1 : -(8 / 10) ≤ y) (h2 : y ≤ 8 / 10) : -(3 / 2) ≤ Cv y ∧ Cv y ≤ 3 / 2 := by
  have h := ev_bd h1 h2 CY
  have := bdC
  rw [← Cv_ev] at h
  constructor <;> grind
theorem Cv_ge {y : Rat} (h1 : -(787 / 1000) ≤ y) (h2 : y ≤ 787 / 1000) : 2 / 3 ≤ Cv y := by
  have m := mul_ab h1 h2 h1 h2
  have n := sq_nn y
  have b := ev_bd (r := 62 / 100) (x := y * y) (by grind) (by grind) CP
  have hb : bd CP (62 / 100) ≤ 1 / 20 := by decide +kernel
  have m2 := mul_ab (x := y * y) (d := y * y) (X := 62 / 100) (E := 62 / 100) (by grind) (by grind) (by grind) (by grind)
  have m3 := mul_ab (x := y * y * (y * y)) (d := ev CP (y * y)) (X := 385 / 1000) (E := 1 / 20) (by grind) (by grind) (by grind) (by grind)
  unfold Cv
  grind
theorem Cv_flat {z : Rat} (h1 : -(1 / 10000000000000) ≤ z) (h2 : z ≤ 1 / 10000000000000) : -(1 / 1000000000000000000000) ≤ Cv z - 1 ∧ Cv z - 1 ≤ 1 / 1000000000000000000000 := by
  have m := mul_ab h1 h2 h1 h2
  have n := sq_nn z
  have b := ev_bd (r := 62 / 100) (x := z * z) (by grind) (by grind) CP
  have hb : bd CP (62 / 100) ≤ 1 / 20 := by decide +kernel
  have m2 := mul_ab (x := z * z) (d := z * z) (X := 1 / 10000000000000000000000000) (E := 1) (by grind) (by grind) (by grind) (by grind)
  have m3 := mul_ab (x := z * z * (z * z)) (d := ev CP (z * z)) (X := 1 / 10000000000000000000000000) (E := 1 / 20) (by grind) (by grind) (by grind) (by grind)
  unfold Cv
  constructor <;> grind
/-- The fraction's value lies between nothing and its argument. -/
theorem arc_bd {t y : Rat} (h0 : 0 ≤ t) (h1 : t ≤ 6601 / 10000) (hy : y * ev QA (t * t) = t * (ev QA (t * t) + t * t * ev PA (t * t))) : 0 ≤ y ∧ y ≤ t := by
  have z0 := sq_nn t
  have m := mul_ab (x := t) (d := t) (X := 6601 / 10000) (E := 6601 / 10000) (by grind) h1 (by grind) h1
  have q := QA_ge z0
  have n := ev_nn z0 (smul (-1) PA) (by decide +kernel)
  rw [ev_smul] at n
  have b := ev_bd (r := 436 / 1000) (x := t * t) (by grind) (by grind) PA
  have hb : bd PA (436 / 1000) ≤ 140 := by decide +kernel
  generalize ev QA (t * t) = Q at *
  generalize ev PA (t * t) = P at *
  generalize t * t = z at *
  have zp := mul_ab (x := z) (d := P) (X := 436 / 1000) (E := 140) (by grind) (by grind) (by grind) (by grind)
  have zn := Rat.mul_nonneg z0 (show 0 ≤ -P by grind)
  have tq := Rat.mul_nonneg h0 (show 0 ≤ Q + z * P by grind)
  have tz := Rat.mul_nonneg h0 (show 0 ≤ -(z * P) by grind)
  constructor
  · apply Classical.byContradiction
    intro hc
    have := Rat.mul_pos (show 0 < -y by grind) (show 0 < Q by grind)
    grind
  · apply Classical.byContradiction
    intro hc
    have := Rat.mul_pos (show 0 < y - t by grind) (show 0 < Q by grind)
    grind
/-- The same for arguments of either sign. -/
theorem f1s {t y : Rat} (h0 : -(6601 / 10000) ≤ t) (h1 : t ≤ 6601 / 10000) (hy : y * ev QA (t * t) = t * (ev QA (t * t) + t * t * ev PA (t * t))) : (-(2 / 1000000000000) ≤ Sv y - t * Cv y ∧ Sv y - t * Cv y ≤ 2 / 1000000000000) ∧ (0 ≤ t → 0 ≤ y ∧ y ≤ t) ∧ (t ≤ 0 → t ≤ y ∧ y ≤ 0) := by
  rcases Rat.le_total (a := 0) (b := t) with h | h
  · have a := f1 h h1 hy
    have b := arc_bd h h1 hy
    refine ⟨by constructor <;> grind, fun _ => b, fun _ => by constructor <;> grind⟩
  · have e : -t * -t = t * t := by grind
    have hy' : -y * ev QA (-t * -t) = -t * (ev QA (-t * -t) + -t * -t * ev PA (-t * -t)) := by rw [e]; grind
    have a := f1 (t := -t) (y := -y) (by grind) (by grind) hy'
    have b := arc_bd (t := -t) (y := -y) (by grind) (by grind) hy'
    rw [Sv_neg, Cv_neg] at a
    refine ⟨by constructor <;> grind, fun _ => by constructor <;> grind, fun _ => by constructor <;> grind⟩
/-- q is the angle of the legs a and b, up to a little. -/
structure Ang (a b q : Rat) : Prop where
  lo : q ≤ p4 + 1 / 1000 → -((a + b) / 100000000000) ≤ a * Sv q - b * Cv q ∧ a * Sv q - b * Cv q ≤ (a + b) / 100000000000
  hi : p4 - 1 / 1000 ≤ q → -((a + b) / 100000000000) ≤ b * Sv (2 * p4 - q) - a * Cv (2 * p4 - q) ∧ b * Sv (2 * p4 - q) - a * Cv (2 * p4 - q) ≤ (a + b) / 100000000000
  r0 : -(1 / 1000000000) ≤ q
  r1 : q ≤ 2 * p4 + 1 / 1000000000
theorem Ang.swap {a b q : Rat} (h : Ang a b q) : Ang b a (2 * p4 - q) := by
  have e : 2 * p4 - (2 * p4 - q) = q := by grind
  refine ⟨fun hq => ?_, fun hq => ?_, by have := h.r1; grind, by have := h.r0; grind⟩
  · have := h.hi (by grind)
    rw [Rat.add_comm b a]; exact this
  · have := h.lo (by grind)
    rw [e, Rat.add_comm b a]; exact this
/-- Small ratios. -/
theorem ang_small {a b x y q : Rat} (ha : 0 ≤ a) (hb : 0 ≤ b) (h0 : 0 ≤ x) (h1 : x ≤ 6601 / 10000) (hy : y * ev QA (x * x) = x * (ev QA (x * x) + x * x * ev PA (x * x))) (r1 : -((a + b) / 100000000000000) ≤ a * x - b) (r2 : a * x - b ≤ (a + b) / 100000000000000) (q1 : -(1 / 10000000000000) ≤ q - y) (q2 : q - y ≤ 1 / 10000000000000) : Ang a b q := by
  have f := (f1s (by grind) h1 hy).1
  obtain ⟨y0, y1⟩ := (f1s (by grind) h1 hy).2.1 h0
  have pb := p4_bd
  have ls := Sv_lip (a := q) (b := y) (by grind) (by grind) (by grind) (by grind) (show (0 : Rat) ≤ 1 / 10000000000000 by decide +kernel) q1 q2
  have lc := Cv_lip (a := q) (b := y) (by grind) (by grind) (by grind) (by grind) (show (0 : Rat) ≤ 1 / 10000000000000 by decide +kernel) q1 q2
  have cb := Cv_bd (y := y) (by grind) (by grind)
  refine ⟨fun _ => ?_, fun hq => by exfalso; grind, by grind, by grind⟩
  have m1 := mul_ab (x := a) (d := Sv q - Sv y) (X := a) (E := 2 / 10000000000000) (by grind) (by grind) (by grind) (by grind)
  have m2 := mul_ab (x := a) (d := Sv y - x * Cv y) (X := a) (E := 2 / 1000000000000) (by grind) (by grind) f.1 f.2
  have m3 := mul_ab (x := a * x - b) (d := Cv y) (X := (a + b) / 100000000000000) (E := 3 / 2) r1 r2 cb.1 cb.2
  have m4 := mul_ab (x := b) (d := Cv y - Cv q) (X := b) (E := 2 / 10000000000000) (by grind) (by grind) (by grind) (by grind)
  have id : a * Sv q - b * Cv q = a * (Sv q - Sv y) + a * (Sv y - x * Cv y) + (a * x - b) * Cv y + b * (Cv y - Cv q) := by grind
  rw [id]
  constructor <;> grind
/-- Ratios about one. -/
theorem ang_mid {a b u v q : Rat} (ha : 0 ≤ a) (hb : 0 ≤ b) (h0 : -(42 / 100) ≤ u) (h1 : u ≤ 42 / 100) (hv : v * ev QA (u * u) = u * (ev QA (u * u) + u * u * ev PA (u * u))) (r1 : -((a + b) / 100000000000000) ≤ (a + b) * u - (b - a)) (r2 : (a + b) * u - (b - a) ≤ (a + b) / 100000000000000) (q1 : -(1 / 10000000000000) ≤ q - (p4 + v)) (q2 : q - (p4 + v) ≤ 1 / 10000000000000) : Ang a b q := by
  obtain ⟨f, p, n⟩ := f1s (by grind) (by grind) hv
  have pb := p4_bd
  have vb : -(42 / 100) ≤ v ∧ v ≤ 42 / 100 := by
    rcases Rat.le_total (a := 0) (b := u) with h | h
    · have := p h; constructor <;> grind
    · have := n h; constructor <;> grind
  have s1 := f2 vb.1 vb.2
  have s2 := f2 (v := -v) (by grind) (by grind)
  rw [Sv_neg, Cv_neg] at s2
  have cb := Cv_bd (y := v) (by grind) (by grind)
  have rb : (7 / 10 : Rat) ≤ rho ∧ rho ≤ 8 / 10 := by decide +kernel
  have k1 := mul_ab (x := a + b) (d := Sv v - u * Cv v) (X := a + b) (E := 2 / 1000000000000) (by grind) (by grind) f.1 f.2
  have k2 := mul_ab (x := (a + b) * u - (b - a)) (d := Cv v) (X := (a + b) / 100000000000000) (E := 3 / 2) r1 r2 cb.1 cb.2
  have kk : -((a + b) * (3 / 1000000000000)) ≤ (a + b) * Sv v - (b - a) * Cv v ∧ (a + b) * Sv v - (b - a) * Cv v ≤ (a + b) * (3 / 1000000000000) := by
    have id : (a + b) * Sv v - (b - a) * Cv v = (a + b) * (Sv v - u * Cv v) + ((a + b) * u - (b - a)) * Cv v := by grind
    rw [id]
    constructor <;> grind
  have k3 := mul_ab (x := rho) (d := (a + b) * Sv v - (b - a) * Cv v) (X := 8 / 10) (E := (a + b) * (3 / 1000000000000)) (by grind) (by grind) kk.1 kk.2
  refine ⟨fun _ => ?_, fun _ => ?_, by grind, by grind⟩
  · have ls := Sv_lip (a := q) (b := p4 + v) (by grind) (by grind) (by grind) (by grind) (show (0 : Rat) ≤ 1 / 10000000000000 by decide +kernel) q1 q2
    have lc := Cv_lip (a := q) (b := p4 + v) (by grind) (by grind) (by grind) (by grind) (show (0 : Rat) ≤ 1 / 10000000000000 by decide +kernel) q1 q2
    have m1 := mul_ab (x := a) (d := Sv q - rho * (Sv v + Cv v)) (X := a) (E := 3 / 1000000000000) (by grind) (by grind) (by grind) (by grind)
    have m2 := mul_ab (x := b) (d := Cv q - rho * (Cv v - Sv v)) (X := b) (E := 3 / 1000000000000) (by grind) (by grind) (by grind) (by grind)
    have id : a * Sv q - b * Cv q = a * (Sv q - rho * (Sv v + Cv v)) - b * (Cv q - rho * (Cv v - Sv v)) + rho * ((a + b) * Sv v - (b - a) * Cv v) := by grind
    rw [id]
    constructor <;> grind
  · have ls := Sv_lip (a := 2 * p4 - q) (b := p4 + -v) (by grind) (by grind) (by grind) (by grind) (show (0 : Rat) ≤ 1 / 10000000000000 by decide +kernel) (by grind) (by grind)
    have lc := Cv_lip (a := 2 * p4 - q) (b := p4 + -v) (by grind) (by grind) (by grind) (by grind) (show (0 : Rat) ≤ 1 / 10000000000000 by decide +kernel) (by grind) (by grind)
    have m1 := mul_ab (x := b) (d := Sv (2 * p4 - q) - rho * (-Sv v + Cv v)) (X := b) (E := 3 / 1000000000000) (by grind) (by grind) (by grind) (by grind)
    have m2 := mul_ab (x := a) (d := Cv (2 * p4 - q) - rho * (Cv v - -Sv v)) (X := a) (E := 3 / 1000000000000) (by grind) (by grind) (by grind) (by grind)
    have id : b * Sv (2 * p4 - q) - a * Cv (2 * p4 - q) = b * (Sv (2 * p4 - q) - rho * (-Sv v + Cv v)) - a * (Cv (2 * p4 - q) - rho * (Cv v - -Sv v)) - rho * ((a + b) * Sv v - (b - a) * Cv v) := by grind
    rw [id]
    constructor <;> grind
end Go.Proofs.YtnkpcjmmingkkaaDoor.PL
