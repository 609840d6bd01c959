/- math.Cbrt: the last step. Plain rational arithmetic. -/
import Derived.Test.YtekideiinifffaaCb4
namespace Go.Proofs.Ytekideiinifffaa.CB
open Go Go.RowKit Go.Proofs.Ytekideiinifffaa.FL Go.Proofs.Ytekideiinifffaa.PO
set_option linter.unusedVariables false
theorem cube_le {u v : Rat} (h0 : 0 ≤ u) (h : u ≤ v) : u * u * u ≤ v * v * v := by
  have a := Rat.mul_le_mul_of_nonneg_right h h0
  have b := Rat.mul_le_mul_of_nonneg_left h (show 0 ≤ v by grind)
  have c := Rat.mul_nonneg h0 h0
  have d := Rat.mul_le_mul_of_nonneg_right (show u * u ≤ v * v by grind) h0
  have e := Rat.mul_nonneg (show 0 ≤ v by grind) (show 0 ≤ v by grind)
  have f := Rat.mul_le_mul_of_nonneg_left h e
  grind
/-- Behind the chopping. -/
theorem rl4 {y A1 A2 : Rat} (hy : 1 ≤ y) (hy8 : y ≤ 8) (h0 : 0 ≤ A1) (h : -(2 / 1000000 * y) ≤ A1 * A1 * A1 - y ∧ A1 * A1 * A1 - y ≤ 2 / 1000000 * y) (h1 : A1 ≤ A2) (h2 : A2 ≤ A1 * (1 + 1 / 2000000)) :
    (-(4 / 1000000 * y) ≤ A2 * A2 * A2 - y ∧ A2 * A2 * A2 - y ≤ 4 / 1000000 * y) ∧ 99 / 100 ≤ A2 ∧ A2 ≤ 201 / 100 := by
  have c1 := cube_le h0 h1
  have c2 := cube_le (show 0 ≤ A2 by grind) h2
  have e : A1 * (1 + 1 / 2000000) * (A1 * (1 + 1 / 2000000)) * (A1 * (1 + 1 / 2000000)) = (A1 * A1 * A1) * (8000012000006000001 / 8000000000000000000) := by grind
  rw [e] at c2
  have hb : -(4 / 1000000 * y) ≤ A2 * A2 * A2 - y ∧ A2 * A2 * A2 - y ≤ 4 / 1000000 * y := by
    generalize A1 * A1 * A1 = t at *
    constructor <;> grind
  refine ⟨hb, ?_, ?_⟩
  · apply Classical.byContradiction
    intro hc
    have := cube_le (show 0 ≤ A2 by grind) (show A2 ≤ 99 / 100 by grind)
    grind
  · apply Classical.byContradiction
    intro hc
    have := cube_le (show (0 : Rat) ≤ 201 / 100 by decide +kernel) (show 201 / 100 ≤ A2 by grind)
    grind
theorem rl5a {A y d1 d2 d3 d4 d5 Q3 R Q4 : Rat} (hy : 1 ≤ y) (hy8 : y ≤ 8) (hA : -(4 / 1000000 * y) ≤ A * A * A - y ∧ A * A * A - y ≤ 4 / 1000000 * y) (a1 : 99 / 100 ≤ A) (a2 : A ≤ 201 / 100)
    (h1 : Sm d1) (h2 : Sm d2) (h3 : Sm d3) (h4 : Sm d4) (h5 : Sm d5) (hQ3 : Q3 * (A * A + d1) = y) (hR : R = Q3 + d2) (hQ4 : Q4 * (A + A + d4 + R + d5) = R - A + d3) :
    ∃ k0 θ, Q4 = k0 + θ ∧ k0 * (2 * (A * A * A) + y) = y - A * A * A ∧ (-(60 * E15) ≤ θ ∧ θ ≤ 60 * E15) := by
  have h0 := E15_0
  have hl := E15_1
  have bA : -3 ≤ A ∧ A ≤ 3 := ⟨by grind, by grind⟩
  have A2 : 98 / 100 ≤ A * A ∧ A * A ≤ 5 := by
    have x1 := Rat.mul_nonneg (show 0 ≤ A - 99 / 100 by grind) (show 0 ≤ A + 99 / 100 by grind)
    have x2 := Rat.mul_nonneg (show 0 ≤ 201 / 100 - A by grind) (show 0 ≤ 201 / 100 + A by grind)
    constructor <;> grind
  have P0 : 0 < A * A + d1 := by unfold Sm at h1; grind
  have bQ3 : -10 ≤ Q3 ∧ Q3 ≤ 10 := cut (y := A * A + d1) P0 (by rw [hQ3]; unfold Sm at h1; grind) (by rw [hQ3]; unfold Sm at h1; grind)
  obtain ⟨ν, hν⟩ : ∃ ν, d2 * (A * A) - Q3 * d1 = ν := ⟨_, rfl⟩
  have n1 := abm (x := d2) (X := E15) (d := A * A) (E := 5) h2 (by constructor <;> grind)
  have n2 := abm bQ3 h1
  have bν : -(15 * E15) ≤ ν ∧ ν ≤ 15 * E15 := by rw [← hν]; constructor <;> grind
  have hRA : R * (A * A) = y + ν := by rw [hR, ← hν]; grind
  have n3 := abm (x := d4 + d5) (X := 2 * E15) (d := A * A) (E := 5) (by unfold Sm at *; constructor <;> grind) (by constructor <;> grind)
  have n4 := abm (x := d3) (X := E15) (d := A * A) (E := 5) h3 (by constructor <;> grind)
  obtain ⟨σ, hσ⟩ : ∃ σ, (d4 + d5) * (A * A) = σ := ⟨_, rfl⟩
  obtain ⟨τ, hτ⟩ : ∃ τ, d3 * (A * A) = τ := ⟨_, rfl⟩
  rw [hσ] at n3
  rw [hτ] at n4
  have main : Q4 * (2 * (A * A * A) + y + ν + σ) = y + ν - A * A * A + τ := by
    have x := congrArg (· * (A * A)) hQ4
    rw [← hσ, ← hτ]
    have y1 : Q4 * (A + A + d4 + R + d5) * (A * A) = Q4 * (2 * (A * A * A) + R * (A * A) + (d4 + d5) * (A * A)) := by grind
    have y2 : (R - A + d3) * (A * A) = R * (A * A) - A * A * A + d3 * (A * A) := by grind
    rw [y1, y2, hRA] at x
    grind
  generalize hC : A * A * A = C at *
  have bQ4 : -1 ≤ Q4 ∧ Q4 ≤ 1 := by
    refine cut (y := 2 * C + y + ν + σ) (by grind) ?_ ?_
    · rw [main]; grind
    · rw [main]; grind
  have hD : 0 < 2 * C + y := by grind
  have n5 := abm bQ4 bν
  have n6 := abm bQ4 n3
  refine ⟨(y - C) / (2 * C + y), Q4 - (y - C) / (2 * C + y), by grind, ?_, ?_⟩
  · rw [Rat.div_def, Rat.mul_assoc, Rat.inv_mul_cancel _ (by grind)]; grind
  · have hk : (y - C) / (2 * C + y) * (2 * C + y) = y - C := by rw [Rat.div_def, Rat.mul_assoc, Rat.inv_mul_cancel _ (by grind)]; grind
    generalize (y - C) / (2 * C + y) = k0 at *
    have e : (Q4 - k0) * (2 * C + y) = ν + τ - Q4 * ν - Q4 * σ := by grind
    have D1 : 1 ≤ 2 * C + y := by grind
    have kk := Rat.mul_le_mul_of_nonneg_left D1 (show 0 ≤ 60 * E15 by grind)
    refine cut (y := 2 * C + y) hD ?_ ?_
    · rw [e]; grind
    · rw [e]; grind
theorem rl5b {A y k0 : Rat} (hy : 1 ≤ y) (hA : -(4 / 1000000 * y) ≤ A * A * A - y ∧ A * A * A - y ≤ 4 / 1000000 * y) (hk : k0 * (2 * (A * A * A) + y) = y - A * A * A) :
    -(1 / 10000000000000000 * y) ≤ A * (1 + k0) * (A * (1 + k0)) * (A * (1 + k0)) - y ∧ A * (1 + k0) * (A * (1 + k0)) * (A * (1 + k0)) - y ≤ 1 / 10000000000000000 * y := by
  obtain ⟨C, hC⟩ : ∃ C, A * A * A = C := ⟨_, rfl⟩
  rw [hC] at hA hk
  obtain ⟨D, hD⟩ : ∃ D, 2 * C + y = D := ⟨_, rfl⟩
  rw [hD] at hk
  have e1 : (1 + k0) * D = C + 2 * y := by grind
  have D29 : 29 / 10 * y ≤ D := by grind
  have y0 : 0 ≤ y := by grind
  have y2 := Rat.mul_nonneg y0 y0
  have y3 := Rat.mul_nonneg y2 y0
  have y4 := Rat.mul_nonneg y3 y0
  have Dp : 0 ≤ D := by grind
  have d2 : 841 / 100 * (y * y) ≤ D * D := by
    have a := Rat.mul_le_mul_of_nonneg_left D29 (show 0 ≤ 29 / 10 * y by grind)
    have b := Rat.mul_le_mul_of_nonneg_right D29 Dp
    grind
  have d3 : 24 * (y * y * y) ≤ D * D * D := by
    have a := Rat.mul_le_mul_of_nonneg_right d2 Dp
    have b := Rat.mul_le_mul_of_nonneg_left D29 (show 0 ≤ 841 / 100 * (y * y) by grind)
    grind
  have D3 : 0 < D * D * D := by
    have := Rat.mul_pos (Rat.mul_pos (show 0 < D by grind) (show 0 < D by grind)) (show 0 < D by grind)
    exact this
  have id : (A * (1 + k0) * (A * (1 + k0)) * (A * (1 + k0)) - y) * (D * D * D) = (C - y) * (C - y) * (C - y) * (C + y) := by
    have : A * (1 + k0) * (A * (1 + k0)) * (A * (1 + k0)) * (D * D * D) = (A * A * A) * (((1 + k0) * D) * ((1 + k0) * D) * ((1 + k0) * D)) := by grind
    have h2 : (A * (1 + k0) * (A * (1 + k0)) * (A * (1 + k0)) - y) * (D * D * D) = A * (1 + k0) * (A * (1 + k0)) * (A * (1 + k0)) * (D * D * D) - y * (D * D * D) := by grind
    rw [h2, this, e1, hC, ← hD]
    grind
  have b1 := abm hA hA
  have b2 := abm (x := (C - y) * (C - y)) b1 hA
  have b3 := abm (x := (C - y) * (C - y) * (C - y)) b2 (d := C + y) (E := 3 * y) (by constructor <;> grind)
  have k := Rat.mul_le_mul_of_nonneg_left d3 y0
  refine cut (y := D * D * D) D3 ?_ ?_
  · rw [id]
    generalize (C - y) * (C - y) * (C - y) * (C + y) = t at *
    grind
  · rw [id]
    generalize (C - y) * (C - y) * (C - y) * (C + y) = t at *
    grind
theorem rl5 {A y d1 d2 d3 d4 d5 d6 d7 d8 Q3 R Q4 A3 : Rat} (hy : 1 ≤ y) (hy8 : y ≤ 8) (hA : -(4 / 1000000 * y) ≤ A * A * A - y ∧ A * A * A - y ≤ 4 / 1000000 * y) (a1 : 99 / 100 ≤ A) (a2 : A ≤ 201 / 100)
    (h1 : Sm d1) (h2 : Sm d2) (h3 : Sm d3) (h4 : Sm d4) (h5 : Sm d5) (h6 : Sm d6) (h7 : Sm d7) (h8 : Sm d8) (hQ3 : Q3 * (A * A + d1) = y) (hR : R = Q3 + d2) (hQ4 : Q4 * (A + A + d4 + R + d5) = R - A + d3)
    (h : A3 = A + (A * (Q4 + d6) + d7) + d8) : (-(1 / 100000000000 * y) ≤ A3 * A3 * A3 - y ∧ A3 * A3 * A3 - y ≤ 1 / 100000000000 * y) := by
  obtain ⟨k0, θ, hQ, hk, hθ⟩ := rl5a hy hy8 hA a1 a2 h1 h2 h3 h4 h5 hQ3 hR hQ4
  have hb := rl5b hy hA hk
  have h0 := E15_0
  have hl : E15 ≤ 1 / 1000000000000000 := by decide +kernel
  obtain ⟨B, hB⟩ : ∃ B, A * (1 + k0) = B := ⟨_, rfl⟩
  rw [hB] at hb
  obtain ⟨φ, hφ⟩ : ∃ φ, A * (θ + d6) + d7 + d8 = φ := ⟨_, rfl⟩
  have n1 := abm (x := A) (X := 3) (d := θ + d6) (E := 61 * E15) ⟨by grind, by grind⟩ (by unfold Sm at h6; constructor <;> grind)
  have bφ : -(200 * E15) ≤ φ ∧ φ ≤ 200 * E15 := by rw [← hφ]; unfold Sm at h7 h8; constructor <;> grind
  have hA3 : A3 = B + φ := by rw [h, hQ, ← hB, ← hφ]; grind
  have B3 : -3 ≤ B ∧ B ≤ 3 := by
    constructor
    · apply Classical.byContradiction
      intro hc
      have := cube_le (show (0 : Rat) ≤ 3 by decide +kernel) (show 3 ≤ -B by grind)
      grind
    · apply Classical.byContradiction
      intro hc
      have := cube_le (show (0 : Rat) ≤ 3 by decide +kernel) (show 3 ≤ B by grind)
      grind
  have c1 := abm B3 B3
  have c2 := abm (x := B * B) (X := 9) (by constructor <;> grind) bφ
  have c3 := abm (x := φ) (X := 200 * E15) (d := φ) (E := 1) bφ (by constructor <;> grind)
  have c4 := abm (x := φ * φ) (X := 200 * E15) (by constructor <;> grind) B3
  have c5 := abm (x := φ * φ) (X := 200 * E15) (d := φ) (E := 1) (by constructor <;> grind) (by constructor <;> grind)
  have id : A3 * A3 * A3 = B * B * B + 3 * (B * B * φ) + 3 * (φ * φ * B) + φ * φ * φ := by rw [hA3]; grind
  rw [id]
  generalize B * B * φ = x1 at *
  generalize φ * φ * B = x2 at *
  generalize φ * φ * φ = x3 at *
  constructor <;> grind
end Go.Proofs.Ytekideiinifffaa.CB
