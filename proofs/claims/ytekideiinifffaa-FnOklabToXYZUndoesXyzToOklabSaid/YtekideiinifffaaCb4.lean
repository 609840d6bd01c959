/- math.Cbrt: how far the roundings carry. Plain rational arithmetic. -/
import Derived.Test.YtekideiinifffaaCb3
namespace Go.Proofs.Ytekideiinifffaa.CB
open Go Go.RowKit Go.Proofs.Ytekideiinifffaa.FL Go.Proofs.Ytekideiinifffaa.PO
set_option linter.unusedVariables false
def Sm (e : Rat) : Prop := -E15 ≤ e ∧ e ≤ E15
theorem E15_0 : 0 ≤ E15 := by decide +kernel
theorem E15_1 : E15 ≤ 1 / 100000000000000 := by decide +kernel
/-- Division of a bound by a positive number. -/
theorem cut {W b y : Rat} (hy : 0 < y) (h1 : -(b * y) ≤ W * y) (h2 : W * y ≤ b * y) : -b ≤ W ∧ W ≤ b :=
  ⟨Rat.le_of_mul_le_mul_right (show -b * y ≤ W * y by grind) hy, Rat.le_of_mul_le_mul_right h2 hy⟩
theorem abm {x d X E : Rat} (h : -X ≤ x ∧ x ≤ X) (k : -E ≤ d ∧ d ≤ E) : -(X * E) ≤ x * d ∧ x * d ≤ X * E := mul_abs h.1 h.2 k.1 k.2
theorem rl0 {a y Q e1 e2 z0 : Rat} (hy : 1 ≤ y) (ha : 0 ≤ a) (ha2 : a ≤ 2) (h1 : Sm e1) (h2 : Sm e2) (hQ : Q * y = a * a + e1) (hz : z0 * y = a * a * a) :
    -(4 * E15) ≤ (Q + e2) * a - z0 ∧ (Q + e2) * a - z0 ≤ 4 * E15 := by
  have p1 := abm (x := a) (X := 2) ⟨by grind, ha2⟩ h1
  have p2 := abm (x := a) (X := 2) ⟨by grind, ha2⟩ h2
  have e : ((Q + e2) * a - z0) * y = a * e1 + (a * e2) * y := by grind
  have h0 := E15_0
  have k := Rat.mul_le_mul_of_nonneg_left hy h0
  have k1 := Rat.mul_le_mul_of_nonneg_right p2.1 (show (0 : Rat) ≤ y by grind)
  have k2 := Rat.mul_le_mul_of_nonneg_right p2.2 (show (0 : Rat) ≤ y by grind)
  exact cut (y := y) (by grind) (by rw [e]; grind) (by rw [e]; grind)
theorem cC_b : 542 / 1000 ≤ cC ∧ cC ≤ 543 / 1000 := by decide +kernel
theorem cD_b : -(706 / 1000) ≤ cD ∧ cD ≤ -(705 / 1000) := by decide +kernel
theorem cE_b : 1414 / 1000 ≤ cE ∧ cE ≤ 1415 / 1000 := by decide +kernel
theorem cF_b : 1607 / 1000 ≤ cF ∧ cF ≤ 1608 / 1000 := by decide +kernel
theorem cG_b : 357 / 1000 ≤ cG ∧ cG ≤ 358 / 1000 := by decide +kernel
/-- Bounds of the quotient of two cubes. -/
theorem z_b {a y z0 : Rat} (hy : 1 ≤ y) (hz : z0 * y = a * a * a) (h1 : 9 / 10 * y ≤ a * a * a) (h2 : a * a * a ≤ 112 / 100 * y) : 9 / 10 ≤ z0 ∧ z0 ≤ 112 / 100 :=
  ⟨Rat.le_of_mul_le_mul_right (show 9 / 10 * y ≤ z0 * y by grind) (by grind), Rat.le_of_mul_le_mul_right (show z0 * y ≤ 112 / 100 * y by grind) (by grind)⟩
theorem qs_b {s : Rat} (h1 : 144 / 100 ≤ s) (h2 : s ≤ 167 / 100) : 33 / 10 ≤ qs s ∧ qs s ≤ 46 / 10 := by
  have a := cE_b
  have b := cD_b
  have k1 := Rat.mul_nonneg (show 0 ≤ s - 144 / 100 by grind) (show 0 ≤ s + 144 / 100 by grind)
  have k2 := Rat.mul_nonneg (show 0 ≤ 167 / 100 - s by grind) (show 0 ≤ s + 167 / 100 by grind)
  have k3 := Rat.mul_nonneg (show 0 ≤ s - 144 / 100 by grind) (show 0 ≤ cE by grind)
  have k4 := Rat.mul_nonneg (show 0 ≤ 167 / 100 - s by grind) (show 0 ≤ cE by grind)
  unfold qs
  constructor <;> grind
theorem ns_b {s : Rat} (h1 : 144 / 100 ≤ s) (h2 : s ≤ 167 / 100) : 0 ≤ ns s ∧ ns s ≤ 5 := by
  have a := cG_b
  have b := cF_b
  have q := qs_b h1 h2
  have k1 := Rat.mul_nonneg (show 0 ≤ cG by grind) (show 0 ≤ qs s by grind)
  have k2 := Rat.mul_nonneg (show 0 ≤ 358 / 1000 - cG by grind) (show 0 ≤ qs s by grind)
  have k3 := Rat.mul_nonneg (show 0 ≤ cF by grind) (show 0 ≤ s by grind)
  have k4 := Rat.mul_nonneg (show 0 ≤ 1608 / 1000 - cF by grind) (show 0 ≤ s by grind)
  unfold ns
  generalize qs s = q0 at *
  constructor <;> grind
/-- The factor g against N / Q. -/
theorem rl2 {s T Q1 Q2 g e5 e6 e7 e8 e9 : Rat} (h1 : 144 / 100 ≤ s) (h2 : s ≤ 167 / 100) (h5 : Sm e5) (h6 : Sm e6) (h7 : Sm e7) (h8 : Sm e8) (h9 : Sm e9)
    (hQ1 : Q1 * s = cD) (hT : T = s + cE + e6 + (Q1 + e5) + e7) (hQ2 : Q2 * T = cF) (hg : g = cG + (Q2 + e8) + e9) (hg2 : -2 ≤ g ∧ g ≤ 2) :
    -(30 * E15) ≤ g * qs s - ns s ∧ g * qs s - ns s ≤ 30 * E15 := by
  have q := qs_b h1 h2
  have c := cG_b
  have h0 := E15_0
  have hl := E15_1
  obtain ⟨η, hη⟩ : ∃ η, (e5 + e6 + e7) * s = η := ⟨_, rfl⟩
  have bη := abm (x := e5 + e6 + e7) (X := 3 * E15) (d := s) (E := 167 / 100) (by unfold Sm at *; constructor <;> grind) ⟨by grind, h2⟩
  rw [hη] at bη
  have hTs : T * s = qs s + η := by rw [hT, ← hη]; unfold qs; grind
  have hgT : g * (T * s) = cG * (T * s) + cF * s + (e8 + e9) * (T * s) := by rw [hg]; grind
  rw [hTs] at hgT
  have e : g * qs s - ns s = cG * η - g * η + (e8 + e9) * (qs s + η) := by unfold ns; grind
  have b1 := abm (x := cG) (X := 1) (d := η) (E := 6 * E15) ⟨by grind, by grind⟩ (by constructor <;> grind)
  have b2 := abm (x := g) (X := 2) (d := η) (E := 6 * E15) hg2 (by constructor <;> grind)
  have b3 := abm (x := e8 + e9) (X := 2 * E15) (d := qs s + η) (E := 5) (by unfold Sm at *; constructor <;> grind) (by constructor <;> grind)
  rw [e]
  generalize cG * η = u1 at *
  generalize g * η = u2 at *
  generalize (e8 + e9) * (qs s + η) = u3 at *
  constructor <;> grind
/-- The first step's result: its cube is near the number. -/
theorem rl3 {a y z0 s μ g e10 A1 : Rat} (hy : 1 ≤ y) (ha : 0 ≤ a) (ha2 : a ≤ 2) (hz : z0 * y = a * a * a) (z1 : 9 / 10 ≤ z0) (z2 : z0 ≤ 112 / 100) (hs : s - cC = z0 + μ) (hμ : -(6 * E15) ≤ μ ∧ μ ≤ 6 * E15)
    (h1 : 144 / 100 ≤ s) (h2 : s ≤ 167 / 100) (hk : -(30 * E15) ≤ g * qs s - ns s ∧ g * qs s - ns s ≤ 30 * E15) (hg2 : 0 ≤ g ∧ g ≤ 2) (he : Sm e10) (hA : A1 = a * g + e10) :
    -(2 / 1000000 * y) ≤ A1 * A1 * A1 - y ∧ A1 * A1 * A1 - y ≤ 2 / 1000000 * y := by
  have q := qs_b h1 h2
  have n := ns_b h1 h2
  have st := step s h1 h2
  have h0 := E15_0
  have hl := E15_1
  generalize qs s = Q at *
  generalize ns s = N at *
  obtain ⟨κ, hκ⟩ : ∃ κ, g * Q - N = κ := ⟨_, rfl⟩
  rw [hκ] at hk
  have hgQ : g * Q = N + κ := by grind
  -- the cube of N + κ
  have bN : -5 ≤ N ∧ N ≤ 5 := ⟨by grind, n.2⟩
  have b1 := abm bN hk
  have b2 := abm (x := N * κ) (X := 5 * (30 * E15)) (d := N) (E := 5) b1 bN
  have b3 := abm (x := N * κ) (X := 5 * (30 * E15)) (d := κ) (E := 1) b1 ⟨by grind, by grind⟩
  have b4 := abm (x := κ) (X := 30 * E15) (d := κ) (E := 1) hk ⟨by grind, by grind⟩
  have b5 := abm (x := κ * κ) (X := 30 * E15) (d := κ) (E := 1) (by constructor <;> grind) ⟨by grind, by grind⟩
  obtain ⟨D, hD⟩ : ∃ D, 3 * (N * κ * N) + 3 * (N * κ * κ) + κ * κ * κ = D := ⟨_, rfl⟩
  have cube : (N + κ) * (N + κ) * (N + κ) = N * N * N + D := by rw [← hD]; grind
  have bD : -(3000 * E15) ≤ D ∧ D ≤ 3000 * E15 := by
    generalize N * κ * N = x1 at *
    generalize N * κ * κ = x2 at *
    generalize κ * κ * κ = x3 at *
    constructor <;> grind
  -- z0 g^3 Q^3
  have t1 := abm (x := s - cC) (X := 2) (d := D) (E := 3000 * E15) (by constructor <;> grind) bD
  have n3 : 0 ≤ N * N * N ∧ N * N * N ≤ 125 := by
    have x1 := Rat.mul_nonneg n.1 n.1
    have x2 := Rat.mul_nonneg x1 n.1
    have x3 := (abm bN bN).2
    have x4 := (abm (x := N * N) (X := 25) ⟨by grind, by grind⟩ bN).2
    exact ⟨x2, by grind⟩
  have t2 := abm (x := μ) (X := 6 * E15) (d := N * N * N + D) (E := 126) hμ (by constructor <;> grind)
  have id1 : (z0 * (g * g * g)) * (Q * Q * Q) = (s - cC) * (N * N * N) + (s - cC) * D - μ * (N * N * N + D) := by
    have : (z0 * (g * g * g)) * (Q * Q * Q) = z0 * ((g * Q) * (g * Q) * (g * Q)) := by grind
    rw [this, hgQ, cube, show z0 = s - cC - μ by grind]; grind
  have Q3 : 35 ≤ Q * Q * Q := by
    have x1 := Rat.mul_nonneg (show 0 ≤ Q - 33 / 10 by grind) (show 0 ≤ Q + 33 / 10 by grind)
    have x2 := Rat.mul_nonneg (show 0 ≤ Q * Q - 1089 / 100 by grind) (show 0 ≤ Q by grind)
    grind
  obtain ⟨R, hR⟩ : ∃ R, z0 * (g * g * g) = R := ⟨_, rfl⟩
  rw [hR] at id1
  have bR : -(11 / 10000000) ≤ R - 1 ∧ R - 1 ≤ 11 / 10000000 := by
    generalize Q * Q * Q = Q3v at *
    generalize (s - cC) * (N * N * N) = P at *
    generalize (s - cC) * D = P2 at *
    generalize μ * (N * N * N + D) = P3 at *
    refine cut (y := Q3v) (by grind) ?_ ?_
    · grind
    · grind
  -- A1
  have hag : -4 ≤ a * g ∧ a * g ≤ 4 := by have := abm (x := a) (X := 2) (d := g) (E := 2) ⟨by grind, ha2⟩ ⟨by grind, hg2.2⟩; constructor <;> grind
  obtain ⟨v, hv⟩ : ∃ v, a * g = v := ⟨_, rfl⟩
  have v3 : v * v * v = R * y := by rw [← hv, ← hR]; have : a * g * (a * g) * (a * g) = (a * a * a) * (g * g * g) := by grind
                                    rw [this, ← hz]; grind
  rw [hv] at hag hA
  have c1 := abm hag hag
  have c2 := abm (x := v * v) (X := 16) (by constructor <;> grind) he
  have c3 := abm (x := e10) (X := E15) (d := e10) (E := 1) he (by unfold Sm at he; constructor <;> grind)
  have c4 := abm (x := e10 * e10) (X := E15) (d := v) (E := 4) (by constructor <;> grind) hag
  have c5 := abm (x := e10 * e10) (X := E15) (d := e10) (E := 1) (by constructor <;> grind) (by unfold Sm at he; constructor <;> grind)
  have id2 : A1 * A1 * A1 = R * y + 3 * (v * v * e10) + 3 * (e10 * e10 * v) + e10 * e10 * e10 := by
    rw [hA, ← v3]; grind
  have k1 := Rat.mul_le_mul_of_nonneg_right bR.1 (show (0 : Rat) ≤ y by grind)
  have k2 := Rat.mul_le_mul_of_nonneg_right bR.2 (show (0 : Rat) ≤ y by grind)
  rw [id2]
  generalize v * v * e10 = x1 at *
  generalize e10 * e10 * v = x2 at *
  generalize e10 * e10 * e10 = x3 at *
  constructor <;> grind
end Go.Proofs.Ytekideiinifffaa.CB
