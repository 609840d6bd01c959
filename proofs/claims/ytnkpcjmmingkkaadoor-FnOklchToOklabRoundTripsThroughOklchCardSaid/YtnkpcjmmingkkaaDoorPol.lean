/- From an angle and a radius back to the legs. Of no program. -/
import Derived.Test.YtnkpcjmmingkkaaDoorAng
namespace Go.Proofs.YtnkpcjmmingkkaaDoor.PL
set_option linter.unusedVariables false
/-- A radius c of the legs a and b, up to a little. -/
structure Radius (a b c : Rat) : Prop where
  c0 : 0 ≤ c
  s1 : -(c * c / 100000000000000 + 1 / 10 ^ 300) ≤ c * c - (a * a + b * b)
  s2 : c * c - (a * a + b * b) ≤ c * c / 100000000000000 + 1 / 10 ^ 300
theorem Radius.swap {a b c : Rat} (h : Radius a b c) : Radius b a c := ⟨h.c0, by rw [Rat.add_comm (b * b)]; exact h.s1, by rw [Rat.add_comm (b * b)]; exact h.s2⟩
theorem tiny_pos : (0 : Rat) < 1 / 10 ^ 300 := by decide +kernel
theorem small_of_sq {x e : Rat} (he : 0 ≤ e) (h : x * x ≤ e * e) : x ≤ e := by
  apply Classical.byContradiction
  intro hc
  have := Rat.mul_pos (show 0 < x - e by grind) (show 0 < x + e by grind)
  grind
/-- The legs are not much longer than the radius. -/
theorem leg_le {a b c : Rat} (ha : 0 ≤ a) (h : Radius a b c) : a ≤ c * (11 / 10) + 1 / 10 ^ 140 := by
  have t := tiny_pos
  have hc := h.c0
  have q := sq_nn b
  have qc := sq_nn c
  have e : (1 / 10 ^ 300 : Rat) ≤ 1 / 10 ^ 140 * (1 / 10 ^ 140) := by decide +kernel
  have p := Rat.mul_nonneg hc (show (0 : Rat) ≤ 1 / 10 ^ 140 by decide +kernel)
  refine small_of_sq (by have : (0 : Rat) ≤ 1 / 10 ^ 140 := by decide +kernel
                         grind) ?_
  have := h.s1
  generalize (1 / 10 ^ 300 : Rat) = T at *
  generalize (1 / 10 ^ 140 : Rat) = U at *
  grind
theorem core {a b c S C D G : Rat} (h1 : a * S = b * C + D) (h2 : c * c = a * a + b * b + G) : c * C * (c * C) - a * a = a * a * (S * S + C * C - 1) - 2 * (a * S * D) + D * D + G * (C * C) := by
  have e : b * C * (b * C) = (a * S - D) * (a * S - D) := by rw [h1]; grind
  have e2 : c * C * (c * C) = (a * a + b * b + G) * (C * C) := by rw [← h2]; grind
  rw [e2]
  grind
theorem polar {a b c q z : Rat} (ha : 0 ≤ a) (hb : 0 ≤ b) (hq : Ang a b q) (hr : Radius a b c) (z1 : -(7855 / 10000) ≤ z) (z2 : z ≤ 7855 / 10000) (d1 : -(1 / 1000000000000) ≤ z - q) (d2 : z - q ≤ 1 / 1000000000000) :
    (-(c * (3 / 10000000000) + 1 / 10 ^ 70) ≤ c * Cv z - a ∧ c * Cv z - a ≤ c * (3 / 10000000000) + 1 / 10 ^ 70) ∧ -(c * (6 / 10000000000) + 1 / 10 ^ 70) ≤ c * Sv z - b ∧ c * Sv z - b ≤ c * (6 / 10000000000) + 1 / 10 ^ 70 := by
  have pb := p4_bd
  obtain ⟨l1, l2⟩ := hq.lo (by grind)
  have ls := Sv_lip (a := z) (b := q) (by grind) (by grind) (by grind) (by grind) (show (0 : Rat) ≤ 1 / 1000000000000 by decide +kernel) d1 d2
  have lc := Cv_lip (a := z) (b := q) (by grind) (by grind) (by grind) (by grind) (show (0 : Rat) ≤ 1 / 1000000000000 by decide +kernel) d1 d2
  have pp := p1 (y := z) (by grind) (by grind)
  have sb := Sv_bd (y := z) (by grind) (by grind)
  have cb := Cv_bd (y := z) (by grind) (by grind)
  have cg := Cv_ge (y := z) (by grind) (by grind)
  have lega := leg_le ha hr
  have legb := leg_le hb hr.swap
  have m1 := mul_ab (x := a) (d := Sv z - Sv q) (X := a) (E := 2 / 1000000000000) (by grind) (by grind) (by grind) (by grind)
  have m2 := mul_ab (x := b) (d := Cv z - Cv q) (X := b) (E := 2 / 1000000000000) (by grind) (by grind) (by grind) (by grind)
  obtain ⟨D, hD⟩ : ∃ D, a * Sv z - b * Cv z = D := ⟨_, rfl⟩
  have D1 : -((a + b) * (12 / 1000000000000)) ≤ D := by rw [← hD]; grind
  have D2 : D ≤ (a + b) * (12 / 1000000000000) := by rw [← hD]; grind
  obtain ⟨G, hG⟩ : ∃ G, c * c - (a * a + b * b) = G := ⟨_, rfl⟩
  have co := core (a := a) (b := b) (c := c) (S := Sv z) (C := Cv z) (D := D) (G := G) (by grind) (by grind)
  have g1 := hr.s1
  have g2 := hr.s2
  have c0 := hr.c0
  rw [hG] at g1 g2
  have t0 := tiny_pos
  clear hq hr l1 l2 ls lc m1 m2 d1 d2 pb
  generalize Sv z = S at *
  generalize Cv z = C at *
  clear z1 z2
  have cc := sq_nn c
  -- the sum of the legs, squared
  have ab := sq_nn (a - b)
  have hs : (a + b) * (a + b) ≤ 2 * (c * c) + 2 * (c * c / 100000000000000 + 1 / 10 ^ 300) := by grind
  have aa : a * a ≤ (a + b) * (a + b) := by have := Rat.mul_nonneg ha hb; have := sq_nn b; grind
  have asq : a * (a + b) ≤ (a + b) * (a + b) := by have := Rat.mul_nonneg hb (show 0 ≤ a + b by grind); grind
  have aS := mul_ab (x := a) (d := S) (X := a) (E := 1) (by grind) (by grind) sb.1 sb.2
  have k1 := mul_ab (x := a * a) (d := S * S + C * C - 1) (X := a * a) (E := 1 / 100000000000000) (by have := sq_nn a; grind) (by grind) (by grind) (by grind)
  have k2 := mul_ab (x := a * S) (d := D) (X := a) (E := (a + b) * (12 / 1000000000000)) (by grind) (by grind) D1 D2
  have k3 := mul_ab (x := D) (d := D) (X := (a + b) * (12 / 1000000000000)) (E := (a + b) * (12 / 1000000000000)) D1 D2 D1 D2
  have CC := mul_ab (x := C) (d := C) (X := 3 / 2) (E := 3 / 2) cb.1 cb.2 cb.1 cb.2
  have k4 := mul_ab (x := G) (d := C * C) (X := c * c / 100000000000000 + 1 / 10 ^ 300) (E := 9 / 4) g1 g2 (by have := sq_nn C; grind) (by grind)
  have M : -(c * c * (8 / 100000000000) + 5 * (1 / 10 ^ 300)) ≤ c * C * (c * C) - a * a ∧ c * C * (c * C) - a * a ≤ c * c * (8 / 100000000000) + 5 * (1 / 10 ^ 300) := by
    rw [co]
    have e2 : a * ((a + b) * (12 / 1000000000000)) = a * (a + b) * (12 / 1000000000000) := by grind
    have e3 : (a + b) * (12 / 1000000000000) * ((a + b) * (12 / 1000000000000)) = (a + b) * (a + b) * (144 / 1000000000000000000000000) := by grind
    rw [e2] at k2
    rw [e3] at k3
    generalize (1 / 10 ^ 300 : Rat) = T at *
    generalize (a + b) * (a + b) = s2 at *
    generalize a * (a + b) = as2 at *
    generalize a * a * (S * S + C * C - 1) = x1 at *
    generalize a * S * D = x2 at *
    generalize D * D = x3 at *
    generalize G * (C * C) = x4 at *
    generalize a * a = a2 at *
    generalize c * c = c2 at *
    constructor <;> grind
  have cC := Rat.mul_nonneg c0 (show 0 ≤ C - 2 / 3 by grind)
  have id : (c * C - a) * (c * C + a) = c * C * (c * C) - a * a := by grind
  rw [← id] at M
  have big : 10 ^ 80 * (5 * (1 / 10 ^ 300)) ≤ (1 / 10 ^ 140 : Rat) := by decide +kernel
  by_cases hc : 1 / 10 ^ 80 ≤ c
  case neg =>
    -- a small radius
    have u1 : (1 / 10 ^ 80 : Rat) * 5 ≤ 1 / 10 ^ 70 / 2 := by decide +kernel
    have u2 : (1 / 10 ^ 140 : Rat) ≤ 1 / 10 ^ 80 := by decide +kernel
    have u3 : (0 : Rat) < 1 / 10 ^ 70 := by decide +kernel
    have c1 := mul_ab (x := c) (d := C) (X := c) (E := 3 / 2) (by grind) (by grind) cb.1 cb.2
    have c2 := mul_ab (x := c) (d := S) (X := c) (E := 1) (by grind) (by grind) sb.1 sb.2
    generalize (1 / 10 ^ 80 : Rat) = U80 at *
    generalize (1 / 10 ^ 70 : Rat) = U70 at *
    generalize (1 / 10 ^ 140 : Rat) = U140 at *
    clear M big k1 k2 k3 k4 co hs g1 g2
    refine ⟨⟨by grind, by grind⟩, by grind, by grind⟩
  case pos =>
    have cpos : 0 < c := by have : (0 : Rat) < 1 / 10 ^ 80 := by decide +kernel
                            grind
    have big2 : 5 * (1 / 10 ^ 300 : Rat) ≤ 1 / 10 ^ 80 * (1 / 10 ^ 140) := by decide +kernel
    have tc : 5 * (1 / 10 ^ 300 : Rat) ≤ c * (1 / 10 ^ 140) := by
      have := Rat.mul_le_mul_of_nonneg_right hc (show (0 : Rat) ≤ 1 / 10 ^ 140 by decide +kernel)
      grind
    have v0 : (0 : Rat) < 1 / 10 ^ 140 := by decide +kernel
    have L1 : -(c * (2 / 10000000000) + 2 * (1 / 10 ^ 140)) ≤ c * C - a := by
      apply Classical.byContradiction
      intro hn
      have a1 := Rat.mul_nonneg (show 0 ≤ -(c * (2 / 10000000000) + 2 * (1 / 10 ^ 140)) - (c * C - a) by grind) (show 0 ≤ c * C + a - c * (2 / 3) by grind)
      have a2 := Rat.mul_nonneg (show 0 ≤ c * (2 / 10000000000) + 2 * (1 / 10 ^ 140) by grind) (show 0 ≤ c * C + a - c * (2 / 3) by grind)
      have a3 := Rat.mul_pos (show 0 < -(c * (2 / 10000000000) + 2 * (1 / 10 ^ 140)) - (c * C - a) by grind) (show 0 < c * (2 / 3) by grind)
      have M1 := M.1
      generalize (1 / 10 ^ 300 : Rat) = T at *
      generalize (1 / 10 ^ 140 : Rat) = V at *
      clear M k1 k2 k3 k4 co hs g1 g2 aa asq aS CC big big2 hc lega legb
      have cv := Rat.mul_pos cpos v0
      grind
    have L2 : c * C - a ≤ c * (2 / 10000000000) + 2 * (1 / 10 ^ 140) := by
      apply Classical.byContradiction
      intro hn
      have a1 := Rat.mul_nonneg (show 0 ≤ (c * C - a) - (c * (2 / 10000000000) + 2 * (1 / 10 ^ 140)) by grind) (show 0 ≤ c * C + a - c * (2 / 3) by grind)
      have a2 := Rat.mul_nonneg (show 0 ≤ c * (2 / 10000000000) + 2 * (1 / 10 ^ 140) by grind) (show 0 ≤ c * C + a - c * (2 / 3) by grind)
      have a3 := Rat.mul_pos (show 0 < (c * C - a) - (c * (2 / 10000000000) + 2 * (1 / 10 ^ 140)) by grind) (show 0 < c * (2 / 3) by grind)
      have M2 := M.2
      generalize (1 / 10 ^ 300 : Rat) = T at *
      generalize (1 / 10 ^ 140 : Rat) = V at *
      clear M k1 k2 k3 k4 co hs g1 g2 aa asq aS CC big big2 hc lega legb
      have cv := Rat.mul_pos cpos v0
      grind
    have vc : 1 / 10 ^ 140 * 1000000000000 ≤ c := by
      have : (1 / 10 ^ 140 * 1000000000000 : Rat) ≤ 1 / 10 ^ 80 := by decide +kernel
      grind
    have w70 : (1 / 10 ^ 140 * 1000000000000 : Rat) ≤ 1 / 10 ^ 70 := by decide +kernel
    generalize (1 / 10 ^ 300 : Rat) = T at *
    generalize (1 / 10 ^ 140 : Rat) = V at *
    generalize (1 / 10 ^ 80 : Rat) = U80 at *
    generalize (1 / 10 ^ 70 : Rat) = U70 at *
    clear M k1 k2 k3 k4 co hs g1 g2 aa asq aS CC big big2 tc
    have alow : c * (6 / 10) ≤ a := by grind
    have n1 := mul_ab (x := b) (d := c * C - a) (X := c * (12 / 10)) (E := c * (2 / 10000000000) + 2 * V) (by grind) (by grind) L1 L2
    have n2 := mul_ab (x := c) (d := D) (X := c) (E := c * (30 / 1000000000000)) (by grind) (by grind) (by grind) (by grind)
    have idS : a * (c * S - b) = b * (c * C - a) + c * D := by grind
    have cv := Rat.mul_pos cpos v0
    refine ⟨⟨by grind, by grind⟩, ?_, ?_⟩
    · apply Classical.byContradiction
      intro hn
      have a1 := Rat.mul_nonneg (show 0 ≤ -(c * (6 / 10000000000) + U70) - (c * S - b) by grind) (show 0 ≤ a - c * (6 / 10) by grind)
      have a2 := Rat.mul_pos (show 0 < -(c * (6 / 10000000000) + U70) - (c * S - b) by grind) (show 0 < c * (6 / 10) by grind)
      have a3 := Rat.mul_nonneg (show 0 ≤ c * (6 / 10000000000) + U70 by grind) (show 0 ≤ a - c * (6 / 10) by grind)
      have a4 := Rat.mul_nonneg c0 (show 0 ≤ U70 - V * 1000000000000 by grind)
      grind
    · apply Classical.byContradiction
      intro hn
      have a1 := Rat.mul_nonneg (show 0 ≤ (c * S - b) - (c * (6 / 10000000000) + U70) by grind) (show 0 ≤ a - c * (6 / 10) by grind)
      have a2 := Rat.mul_pos (show 0 < (c * S - b) - (c * (6 / 10000000000) + U70) by grind) (show 0 < c * (6 / 10) by grind)
      have a3 := Rat.mul_nonneg (show 0 ≤ c * (6 / 10000000000) + U70 by grind) (show 0 ≤ a - c * (6 / 10) by grind)
      have a4 := Rat.mul_nonneg c0 (show 0 ≤ U70 - V * 1000000000000 by grind)
      grind
end Go.Proofs.YtnkpcjmmingkkaaDoor.PL
