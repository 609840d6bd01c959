/- From the legs' ratio back to the angle: sine against cosine is monotone. Of no program. -/
import Derived.Test.YtnkpcjmmingkkaaDoorAng
namespace Go.Proofs.YtnkpcjmmingkkaaDoor.PL
set_option linter.unusedVariables false
/-- The divided difference. -/
def dd : List Rat → Rat → Rat → Rat
  | [], _, _ => 0
  | _ :: p, y, z => ev p y + z * dd p y z
theorem ev_dd : ∀ (p : List Rat) (y z : Rat), ev p y - ev p z = (y - z) * dd p y z
  | [], y, z => by simp only [ev, dd]; grind
  | c :: p, y, z => by
    have ih := ev_dd p y z
    simp only [ev, dd]
    have : z * (ev p y - ev p z) = z * ((y - z) * dd p y z) := by rw [ih]
    grind
theorem dd_bd {r y z : Rat} (y1 : -r ≤ y) (y2 : y ≤ r) (z1 : -r ≤ z) (z2 : z ≤ r) : ∀ p : List Rat, -lip p r ≤ dd p y z ∧ dd p y z ≤ lip p r
  | [] => by simp only [dd, lip]; constructor <;> grind
  | c :: p => by
    have ih := dd_bd y1 y2 z1 z2 p
    have v := ev_bd y1 y2 p
    have m := mul_ab z1 z2 ih.1 ih.2
    simp only [dd, lip]
    constructor <;> grind
def R3 : List Rat := sub SY [0, 1, 0, -1 / 6]
def R4 : List Rat := sub CY [1, 0, -1 / 2]
theorem lipR3 : lip R3 (79 / 100) ≤ 3 / 100 := by decide +kernel
theorem lipR4 : lip R4 (79 / 100) ≤ 9 / 100 := by decide +kernel
theorem Sv_R3 (y : Rat) : Sv y = y - 1 / 6 * (y * y * y) + ev R3 y := by
  rw [Sv_ev]; unfold R3; rw [ev_sub]
  have : ev [0, 1, 0, -1 / 6] y = y - 1 / 6 * (y * y * y) := by simp only [ev]; grind
  rw [this]; grind
theorem Cv_R4 (y : Rat) : Cv y = 1 - 1 / 2 * (y * y) + ev R4 y := by
  rw [Cv_ev]; unfold R4; rw [ev_sub]
  have : ev [1, 0, -1 / 2] y = 1 - 1 / 2 * (y * y) := by simp only [ev]; grind
  rw [this]; grind
/-- The sine rises. -/
theorem Sv_up {y z : Rat} (y1 : -(79 / 100) ≤ y) (y2 : y ≤ 79 / 100) (z1 : -(79 / 100) ≤ z) (z2 : z ≤ 79 / 100) : ∃ d, Sv y - Sv z = (y - z) * d ∧ 65 / 100 ≤ d ∧ d ≤ 2 := by
  have e := ev_dd R3 y z
  have b := dd_bd y1 y2 z1 z2 R3
  have l := lipR3
  refine ⟨1 - 1 / 6 * (y * y + y * z + z * z) + dd R3 y z, by rw [Sv_R3, Sv_R3]; grind, ?_, ?_⟩
  · have a := mul_ab y1 y2 y1 y2
    have c := mul_ab y1 y2 z1 z2
    have d := mul_ab z1 z2 z1 z2
    grind
  · have a := mul_ab y1 y2 z1 z2
    have := sq_nn y
    have := sq_nn z
    grind
/-- The crux: y and z part no more than sine and cosine tell. -/
theorem apart {y z : Rat} (y1 : -(79 / 100) ≤ y) (y2 : y ≤ 79 / 100) (z1 : -(787 / 1000) ≤ z) (z2 : z ≤ 787 / 1000) : ∃ d, Sv y * Cv z - Cv y * Sv z = (y - z) * d ∧ 1 / 6 ≤ d := by
  have z1' : -(79 / 100) ≤ z := by grind
  have z2' : z ≤ 79 / 100 := by grind
  obtain ⟨dS, eS, s1, s2⟩ := Sv_up y1 y2 z1' z2'
  have e4 := ev_dd R4 y z
  have b4 := dd_bd y1 y2 z1' z2' R4
  have l4 := lipR4
  have eC : Cv y - Cv z = (y - z) * (-(1 / 2) * (y + z) + dd R4 y z) := by rw [Cv_R4, Cv_R4]; grind
  obtain ⟨t, et, t1, t2⟩ := Sv_up z1' z2' (y := z) (z := 0) (by grind) (by grind)
  have s0 : Sv 0 = 0 := by unfold Sv; grind
  rw [s0] at et
  have hSz : Sv z = z * t := by grind
  have cg := Cv_ge z1 z2
  have sb := Sv_bd (y := z) (by grind) (by grind)
  refine ⟨dS * Cv z - (-(1 / 2) * (y + z) + dd R4 y z) * Sv z, ?_, ?_⟩
  · have : Sv y * Cv z - Cv y * Sv z = (Sv y - Sv z) * Cv z - (Cv y - Cv z) * Sv z := by grind
    rw [this, eS, eC]; grind
  · have a1 := Rat.mul_nonneg (show 0 ≤ dS - 65 / 100 by grind) (show 0 ≤ Cv z - 2 / 3 by grind)
    have a2 := mul_ab b4.1 b4.2 sb.1 sb.2
    -- (y + z) * z is at least -(y/2)^2
    have a3 := sq_nn (z + y / 2)
    have a4 := mul_ab y1 y2 y1 y2
    have q : -(16 / 100) ≤ (y + z) * z := by grind
    have a5 : -(16 / 100 * t) ≤ (y + z) * z * t := by
      have := Rat.mul_nonneg (show 0 ≤ (y + z) * z + 16 / 100 by grind) (show 0 ≤ t by grind)
      grind
    have a6 : (y + z) * Sv z = (y + z) * z * t := by rw [hSz]; grind
    have id : (-(1 / 2) * (y + z) + dd R4 y z) * Sv z = -(1 / 2) * ((y + z) * Sv z) + dd R4 y z * Sv z := by grind
    have l4' : dd R4 y z * Sv z ≤ 9 / 100 := by
      have := a2.2
      grind
    rw [id, a6]
    clear e4 eC eS
    grind
/-- Near nothing only by nearness. -/
theorem apart_near {y z e : Rat} (y1 : -(79 / 100) ≤ y) (y2 : y ≤ 79 / 100) (z1 : -(787 / 1000) ≤ z) (z2 : z ≤ 787 / 1000) (h1 : -e ≤ Sv y * Cv z - Cv y * Sv z) (h2 : Sv y * Cv z - Cv y * Sv z ≤ e) : -(6 * e) ≤ y - z ∧ y - z ≤ 6 * e := by
  obtain ⟨d, hd, hd1⟩ := apart y1 y2 z1 z2
  rw [hd] at h1 h2
  constructor
  · apply Classical.byContradiction
    intro hn
    have a := Rat.mul_nonneg (show 0 ≤ -(6 * e) - (y - z) by grind) (show 0 ≤ d - 1 / 6 by grind)
    have he : 0 ≤ e := by grind
    have b := Rat.mul_nonneg he (show 0 ≤ d - 1 / 6 by grind)
    grind
  · apply Classical.byContradiction
    intro hn
    have he : 0 ≤ e := by grind
    have a := Rat.mul_nonneg (show 0 ≤ (y - z) - 6 * e by grind) (show 0 ≤ d - 1 / 6 by grind)
    have b := Rat.mul_nonneg he (show 0 ≤ d - 1 / 6 by grind)
    grind
theorem Cv_le1 {z : Rat} (h1 : -(787 / 1000) ≤ z) (h2 : z ≤ 787 / 1000) : Cv z ≤ 1 := by
  have m := mul_ab h1 h2 h1 h2
  have n := sq_nn z
  have b := ev_bd (r := 62 / 100) (x := z * z) (by grind) (by grind) CP
  have hb : bd CP (62 / 100) ≤ 1 / 20 := by decide +kernel
  have m3 := mul_ab (x := z * z) (d := ev CP (z * z)) (X := 62 / 100) (E := 1 / 20) (by grind) (by grind) (by grind) (by grind)
  have m4 := Rat.mul_nonneg n (show 0 ≤ 31 / 1000 - z * z * ev CP (z * z) by grind)
  unfold Cv
  grind
theorem Sv_le {z : Rat} (h1 : 0 ≤ z) (h2 : z ≤ 787 / 1000) : Sv z ≤ z := by
  have m := mul_ab (x := z) (d := z) (X := 787 / 1000) (E := 787 / 1000) (by grind) h2 (by grind) h2
  have n := sq_nn z
  have b := ev_bd (r := 62 / 100) (x := z * z) (by grind) (by grind) (sub SP [-1 / 6])
  rw [ev_sub, ev_c] at b
  have hb : bd (sub SP [-1 / 6]) (62 / 100) ≤ 1 / 10 := by decide +kernel
  have k := Rat.mul_nonneg (Rat.mul_nonneg h1 n) (show 0 ≤ -ev SP (z * z) by grind)
  unfold Sv
  grind
theorem p4_sc : (-(3 / 1000000000000) ≤ Sv p4 - rho ∧ Sv p4 - rho ≤ 3 / 1000000000000) ∧ -(3 / 1000000000000) ≤ Cv p4 - rho ∧ Cv p4 - rho ≤ 3 / 1000000000000 := by
  have h := f2 (v := 0) (by decide +kernel) (by decide +kernel)
  have s0 : Sv 0 = 0 := by unfold Sv; grind
  have c0 : Cv 0 = 1 := by unfold Cv; grind
  rw [s0, c0, Rat.add_zero] at h
  constructor <;> constructor <;> grind
/-- The angle of legs that are c times cosine and sine of z. -/
theorem inv {A B c q z : Rat} (hA : 0 ≤ A) (hB : 0 ≤ B) (h : Ang A B q) (hc : 0 < c) (z1 : 0 ≤ z) (z2 : z ≤ 78541 / 100000) (a1 : -(c / 1000000000000) ≤ A - c * Cv z) (a2 : A - c * Cv z ≤ c / 1000000000000) (b1 : -(c / 1000000000000) ≤ B - c * Sv z) (b2 : B - c * Sv z ≤ c / 1000000000000) : -(13 / 100000000000) ≤ q - z ∧ q - z ≤ 13 / 100000000000 := by
  have pb := p4_bd
  have q1 := h.r0
  have q2 := h.r1
  have C1 := Cv_le1 (z := z) (by grind) (by grind)
  have Cg := Cv_ge (y := z) (by grind) (by grind)
  have S1 := Sv_le z1 (by grind)
  have cC := mul_ab (x := c) (d := Cv z) (X := c) (E := 1) (by grind) (by grind) (by grind) C1
  have cS : c * Sv z ≤ c * (78541 / 100000) := Rat.mul_le_mul_of_nonneg_left (by grind) (Rat.le_of_lt hc)
  have Sg : 0 ≤ Sv z := by
    obtain ⟨d, hd, d1, -⟩ := Sv_up (y := z) (z := 0) (by grind) (by grind) (by grind) (by grind)
    have s0 : Sv 0 = 0 := by unfold Sv; grind
    have := Rat.mul_nonneg z1 (show 0 ≤ d by grind)
    grind
  by_cases hq : q ≤ p4 + 1 / 1000
  · obtain ⟨l1, l2⟩ := h.lo hq
    have sb := Sv_bd (y := q) (by grind) (by grind)
    have cb := Cv_bd (y := q) (by grind) (by grind)
    have cl := Cv_le1 (z := q) (by grind) (by grind)
    have cgq := Cv_ge (y := q) (by grind) (by grind)
    have m1 := mul_ab (x := A - c * Cv z) (d := Sv q) (X := c / 1000000000000) (E := 1) a1 a2 sb.1 sb.2
    have m2 := mul_ab (x := B - c * Sv z) (d := Cv q) (X := c / 1000000000000) (E := 1) b1 b2 (by grind) cl
    have id : c * (Sv q * Cv z - Cv q * Sv z) = (A * Sv q - B * Cv q) - (A - c * Cv z) * Sv q + (B - c * Sv z) * Cv q := by grind
    have k1 : c * -(21 / 1000000000000) ≤ c * (Sv q * Cv z - Cv q * Sv z) := by rw [id]; grind
    have k2 : c * (Sv q * Cv z - Cv q * Sv z) ≤ c * (21 / 1000000000000) := by rw [id]; grind
    have n1 := Rat.le_of_mul_le_mul_left k1 hc
    have n2 := Rat.le_of_mul_le_mul_left k2 hc
    have r := apart_near (y := q) (z := z) (by grind) (by grind) (by grind) (by grind) n1 n2
    constructor <;> grind
  · exfalso
    obtain ⟨l1, l2⟩ := h.hi (by grind)
    obtain ⟨w, hw⟩ : ∃ w, 2 * p4 - q = w := ⟨_, rfl⟩
    rw [hw] at l1 l2
    have w1 : -(1 / 1000000000) ≤ w := by grind
    have w2 : w ≤ p4 - 1 / 1000 := by grind
    have sb := Sv_bd (y := w) (by grind) (by grind)
    have cb := Cv_bd (y := w) (by grind) (by grind)
    have cl := Cv_le1 (z := w) (by grind) (by grind)
    have cgw := Cv_ge (y := w) (by grind) (by grind)
    have rb : (7 / 10 : Rat) ≤ rho ∧ rho ≤ 71 / 100 := by decide +kernel
    obtain ⟨⟨p1, p2⟩, p3, p5⟩ := p4_sc
    obtain ⟨s4, hs4⟩ : ∃ s, Sv p4 = s := ⟨_, rfl⟩
    obtain ⟨c4, hc4⟩ : ∃ s, Cv p4 = s := ⟨_, rfl⟩
    obtain ⟨ρ, hρ⟩ : ∃ s, rho = s := ⟨_, rfl⟩
    rw [hs4, hρ] at p1 p2
    rw [hc4, hρ] at p3 p5
    rw [hρ] at rb
    -- z hardly beyond the quarter
    have zc : -(1 / 10000) ≤ Cv z - Sv z := by
      have e : ∃ x, s4 * Cv z - c4 * Sv z = x ∧ -(61 / 1000000) ≤ x := by
        by_cases hz : z ≤ p4
        · obtain ⟨d, hd, d1⟩ := apart (y := p4) (z := z) (by grind) (by grind) (by grind) (by grind)
          rw [hs4, hc4] at hd
          have := Rat.mul_nonneg (show 0 ≤ p4 - z by grind) (show 0 ≤ d by grind)
          exact ⟨_, hd, by grind⟩
        · have ls := Sv_lip (a := p4) (b := z) (e := 12 / 1000000) (by grind) (by grind) (by grind) (by grind) (by decide +kernel) (by grind) (by grind)
          have lc := Cv_lip (a := p4) (b := z) (e := 12 / 1000000) (by grind) (by grind) (by grind) (by grind) (by decide +kernel) (by grind) (by grind)
          rw [hs4] at ls
          rw [hc4] at lc
          have u1 := mul_ab (x := s4 - Sv z) (d := Cv z) (X := 24 / 1000000) (E := 1) (by grind) (by grind) (by grind) C1
          have u2 := mul_ab (x := c4 - Cv z) (d := Sv z) (X := 24 / 1000000) (E := 1) (by grind) (by grind) (by grind) (by grind)
          exact ⟨_, rfl, by grind⟩
      obtain ⟨x, ex, hx⟩ := e
      have v1 := mul_ab (x := s4 - ρ) (d := Cv z) (X := 3 / 1000000000000) (E := 1) p1 p2 (by grind) C1
      have v2 := mul_ab (x := c4 - ρ) (d := Sv z) (X := 3 / 1000000000000) (E := 1) p3 p5 (by grind) (by grind)
      have key : ρ * (Cv z - Sv z) = x - (s4 - ρ) * Cv z + (c4 - ρ) * Sv z := by rw [← ex]; grind
      apply Classical.byContradiction
      intro hn
      have := Rat.mul_pos (show 0 < -(1 / 10000) - (Cv z - Sv z) by grind) (show 0 < ρ by grind)
      grind
    have wc : 2 / 10000 ≤ Cv w - Sv w := by
      obtain ⟨d, hd, d1⟩ := apart (y := p4) (z := w) (by grind) (by grind) (by grind) (by grind)
      rw [hs4, hc4] at hd
      have m := Rat.mul_nonneg (show 0 ≤ (p4 - w) - 1 / 1000 by grind) (show 0 ≤ d - 1 / 6 by grind)
      have v1 := mul_ab (x := s4 - ρ) (d := Cv w) (X := 3 / 1000000000000) (E := 1) p1 p2 (by grind) cl
      have v2 := mul_ab (x := c4 - ρ) (d := Sv w) (X := 3 / 1000000000000) (E := 1) p3 p5 sb.1 sb.2
      have key : ρ * (Cv w - Sv w) = (p4 - w) * d - (s4 - ρ) * Cv w + (c4 - ρ) * Sv w := by rw [← hd]; grind
      apply Classical.byContradiction
      intro hn
      have := Rat.mul_pos (show 0 < 2 / 10000 - (Cv w - Sv w) by grind) (show 0 < ρ by grind)
      grind
    have m1 := mul_ab (x := A - c * Cv z) (d := Cv w) (X := c / 1000000000000) (E := 1) a1 a2 (by grind) cl
    have m2 := mul_ab (x := B - c * Sv z) (d := Sv w) (X := c / 1000000000000) (E := 1) b1 b2 sb.1 sb.2
    have id : c * (Sv z * Sv w - Cv z * Cv w) = (B * Sv w - A * Cv w) - (B - c * Sv z) * Sv w + (A - c * Cv z) * Cv w := by grind
    have k1 : c * -(21 / 1000000000000) ≤ c * (Sv z * Sv w - Cv z * Cv w) := by rw [id]; grind
    have n1 := Rat.le_of_mul_le_mul_left k1 hc
    by_cases hs : 0 ≤ Sv w
    · have x1 := Rat.mul_nonneg (show 0 ≤ Cv z + 1 / 10000 - Sv z by grind) hs
      have x2 := Rat.mul_nonneg (show 0 ≤ Cv z by grind) (show 0 ≤ Cv w - 2 / 10000 - Sv w by grind)
      have sw : Sv w ≤ 1 := sb.2
      grind
    · have x1 := Rat.mul_nonneg Sg (show 0 ≤ -Sv w by grind)
      have x2 := Rat.mul_nonneg (show 0 ≤ Cv z - 2 / 3 by grind) (show 0 ≤ Cv w - 2 / 3 by grind)
      grind
end Go.Proofs.YtnkpcjmmingkkaaDoor.PL
