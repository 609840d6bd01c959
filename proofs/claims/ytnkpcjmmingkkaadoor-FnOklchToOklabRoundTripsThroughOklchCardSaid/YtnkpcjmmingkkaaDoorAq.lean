/- Go's atan of y / x. -/
import Derived.Test.YtnkpcjmmingkkaaDoorAv
namespace Go.Proofs.YtnkpcjmmingkkaaDoor.F64
open Go Go.RowKit Go.Lib Go.Proofs.YtnkpcjmmingkkaaDoor.FL
set_option linter.unusedVariables false
theorem ab_pos {c : Rat} (h : 0 ≤ c) : PL.ab c = c := by unfold PL.ab; rw [if_neg (by grind)]
theorem ab_neg {c : Rat} (h : c < 0) : PL.ab c = -c := by unfold PL.ab; rw [if_pos h]
theorem ab_nn (c : Rat) : 0 ≤ PL.ab c := (PL.ab_le c).2.2
theorem ab_or (c : Rat) : PL.ab c = c ∨ PL.ab c = -c := by unfold PL.ab; split <;> grind
theorem ab_of {y P : Rat} (hP : 0 ≤ P) (h : y = P ∨ y = -P) : PL.ab y = P := by unfold PL.ab; split <;> grind
/-- The legs' quotient. -/
theorem ab_quo {x y q : Rat} (h : q * x = y) : PL.ab x * PL.ab q = PL.ab y := by
  refine (ab_of (Rat.mul_nonneg (ab_nn x) (ab_nn q)) ?_).symm
  rcases ab_or x with a | a <;> rcases ab_or q with b | b <;> rw [a, b]
  · left; grind
  · right; grind
  · right; grind
  · left; grind
theorem ang_zero {a b : Rat} (ha : 0 ≤ a) (hb : 0 ≤ b) (h : b ≤ (a + b) / 100000000000000) : PL.Ang a b 0 :=
  PL.ang_small (x := 0) (y := 0) ha hb (by decide +kernel) (by decide +kernel) (by simp) (by grind) (by grind) (by decide +kernel) (by decide +kernel)
theorem atanQ (y x : Nat) (fy : FL.Fin y) (fx : FL.Fin x) (hy : rv y ≠ 0) (hx : rv x ≠ 0) : FL.Fin (atanV (fop .quo y x)) ∧ ∃ q, PL.Ang (PL.ab (rv x)) (PL.ab (rv y)) q ∧ rv (atanV (fop .quo y x)) = if rv y / rv x < 0 then -q else q := by
  obtain ⟨ρ, hρ⟩ : ∃ ρ, rv y / rv x = ρ := ⟨_, rfl⟩
  have hq : ρ * rv x = rv y := by rw [← hρ]; exact Rat.div_mul_cancel hx
  have hab := ab_quo hq
  have ha := ab_nn (rv x)
  have hb := ab_nn (rv y)
  have hr := ab_nn ρ
  have el := eta_le
  have ep := eta_pos
  rw [hρ]
  by_cases hbig : -p2 1023 ≤ ρ ∧ ρ ≤ p2 1023
  · obtain ⟨z, hz, r, -⟩ := div_rnd fy fx hx (by rw [hρ]; exact hbig.1) (by rw [hρ]; exact hbig.2)
    rw [fop_some (op := .quo) hz]
    rw [hρ] at r
    have e := r.err (PL.ab ρ) (PL.ab_le ρ).1 (PL.ab_le ρ).2.1
    rw [u53_eq] at e
    have f := r.fin
    have o0 : (FloatKind.f64.format.order z 0 == some .eq) = decide (rv z = 0) := zero_order f
    have o1 : (FloatKind.f64.format.order z 0 == some .gt) = decide (0 < rv z) := by
      show (Ieee.double.order z 0 == some .gt) = _
      rw [gt_iff f fZ, vZ]
    -- what a times the miss is
    have m1 := mul_abs (x := PL.ab (rv x)) (d := PL.ab ρ * (1 / 9007199254740992) + eta) (X := PL.ab (rv x)) (E := PL.ab ρ * (1 / 9007199254740992) + eta) (by grind) (by grind) (by grind) (by grind)
    have ma : PL.ab (rv x) * (PL.ab ρ * (1 / 9007199254740992) + eta) = PL.ab (rv y) * (1 / 9007199254740992) + PL.ab (rv x) * eta := by rw [← hab]; grind
    have me := Rat.mul_le_mul_of_nonneg_left el ha
    have me0 := Rat.mul_nonneg ha (Rat.le_of_lt ep)
    unfold atanV
    by_cases z0 : rv z = 0
    · rw [if_pos (o0.trans (decide_eq_true z0))]
      refine ⟨f, 0, ang_zero ha hb ?_, by rw [z0]; split <;> grind⟩
      have ub : PL.ab ρ ≤ PL.ab ρ * (1 / 9007199254740992) + eta := by
        rcases Rat.le_total (a := 0) (b := ρ) with h | h
        · have := ab_pos h; grind
        · have : PL.ab ρ = -ρ := by unfold PL.ab; split <;> grind
          grind
      have := Rat.mul_le_mul_of_nonneg_left ub ha
      rw [ma, hab] at this
      grind
    · rw [if_neg (by rw [o0, decide_eq_false z0]; decide)]
      by_cases zp : 0 < rv z
      · rw [if_pos (o1.trans (decide_eq_true zp))]
        have ρp : 0 < ρ := by
          apply Classical.byContradiction
          intro hc
          have := r.below 0 fZ (by rw [vZ]; grind)
          rw [vZ] at this; grind
        rw [ab_pos (Rat.le_of_lt ρp)] at *
        have d := mul_abs (x := PL.ab (rv x)) (d := rv z - ρ) (X := PL.ab (rv x)) (E := ρ * (1 / 9007199254740992) + eta) (by grind) (by grind) (by grind) (by grind)
        rw [ma] at d
        have id : PL.ab (rv x) * rv z - PL.ab (rv y) = PL.ab (rv x) * (rv z - ρ) := by rw [← hab]; grind
        have s := satV_ang ha hb f zp (by rw [id]; grind) (by rw [id]; grind)
        exact ⟨s.1, _, s.2, by rw [if_neg (by grind)]⟩
      · rw [if_neg (by rw [o1, decide_eq_false zp]; decide)]
        have ρn : ρ < 0 := by
          apply Classical.byContradiction
          intro hc
          have := r.above 0 fZ (by rw [vZ]; grind)
          rw [vZ] at this; grind
        rw [ab_neg ρn] at *
        have fn : FL.Fin (neg z) := neg_fin f
        have vn : rv (neg z) = -rv z := neg_rv f
        have d := mul_abs (x := PL.ab (rv x)) (d := rv z - ρ) (X := PL.ab (rv x)) (E := -ρ * (1 / 9007199254740992) + eta) (by grind) (by grind) (by grind) (by grind)
        rw [ma] at d
        have id : PL.ab (rv x) * rv (neg z) - PL.ab (rv y) = -(PL.ab (rv x) * (rv z - ρ)) := by rw [← hab, vn]; grind
        have s := satV_ang ha hb fn (by rw [vn]; grind) (by rw [id]; grind) (by rw [id]; grind)
        refine ⟨neg_fin s.1, _, s.2, ?_⟩
        rw [if_pos ρn]
        exact neg_rv s.1
  · have hout : p2 1023 < ρ ∨ ρ < -p2 1023 := by
      rcases Classical.em (ρ ≤ p2 1023) with h | h
      · right
        apply Classical.byContradiction
        intro hc
        exact hbig ⟨by grind, h⟩
      · left; grind
    obtain ⟨z, hz, hl, h1, h2, hs⟩ := div_big fy fx hx (by rw [hρ]; exact hout)
    rw [fop_some (op := .quo) hz]
    rw [hρ] at hs
    have bp := big_le
    have hge : 10 ^ 20 ≤ PL.ab ρ := by
      have c : (10 ^ 20 : Rat) ≤ 10000000000000000000000000000000000000000000000000000000000000 := by decide +kernel
      rcases hout with h | h
      · rw [ab_pos (by grind)]; grind
      · rw [ab_neg (by grind)]; grind
    have hab2 : PL.ab (rv x) * 10 ^ 20 ≤ PL.ab (rv y) := by rw [← hab]; exact Rat.mul_le_mul_of_nonneg_left hge ha
    have s := satV_huge ha hb h1 h2 hab2
    unfold atanV
    by_cases hn : ρ < 0
    · rw [decide_eq_true hn] at hs
      have hz1 : z = z % 2 ^ 63 + 2 ^ 63 := by
        have : z / 2 ^ 63 % 2 = 1 := by simpa using hs
        omega
      have hneg : neg z = z % 2 ^ 63 := by
        show z ^^^ 2 ^ 63 = _
        have a1 := xor_mod z
        have a2 := xor_sign z
        have a3 := neg_lt hl
        rw [hs] at a2
        have a4 : (z ^^^ 2 ^ 63) / 2 ^ 63 % 2 ≠ 1 := by simpa using a2
        omega
      have c0 : (FloatKind.f64.format.order z 0 == some .eq) = false ∧ (FloatKind.f64.format.order z 0 == some .gt) = false := by
        by_cases hi : z % 2 ^ 63 = 2047 * 2 ^ 52
        · rw [hz1, hi]; decide +kernel
        · have f : FL.Fin z := by unfold FL.Fin; omega
          have vz : rv z < 0 := by
            obtain ⟨E, K, hK, hE, hw, hv⟩ := fin_form f
            have k1 : 1 ≤ K := by omega
            rw [hv, hs]
            have a1 : (0 : Rat) < (K : Rat) * p2 ((E : Int) - 1074) := Rat.mul_pos (by exact_mod_cast k1) (p2_pos _)
            simp only [sg, if_true]
            grind
          refine ⟨(zero_order f).trans (decide_eq_false (by grind)), ?_⟩
          show (Ieee.double.order z 0 == some .gt) = false
          rw [gt_iff f fZ, vZ]
          exact decide_eq_false (by grind)
      rw [if_neg (by rw [c0.1]; decide), if_neg (by rw [c0.2]; decide), hneg]
      exact ⟨neg_fin s.1, _, s.2, by rw [if_pos hn]; exact neg_rv s.1⟩
    · rw [decide_eq_false hn] at hs
      have hz1 : z = z % 2 ^ 63 := by
        have : z / 2 ^ 63 % 2 ≠ 1 := by simpa using hs
        omega
      have c0 : (FloatKind.f64.format.order z 0 == some .eq) = false ∧ (FloatKind.f64.format.order z 0 == some .gt) = true := by
        by_cases hi : z % 2 ^ 63 = 2047 * 2 ^ 52
        · rw [hz1, hi]; decide +kernel
        · have f : FL.Fin z := by unfold FL.Fin; omega
          have vz : 0 < rv z := by
            obtain ⟨E, K, hK, hE, hw, hv⟩ := fin_form f
            have k1 : 1 ≤ K := by omega
            rw [hv, hs]
            have a1 : (0 : Rat) < (K : Rat) * p2 ((E : Int) - 1074) := Rat.mul_pos (by exact_mod_cast k1) (p2_pos _)
            simp only [sg, Bool.false_eq_true, if_false]
            grind
          refine ⟨(zero_order f).trans (decide_eq_false (by grind)), ?_⟩
          show (Ieee.double.order z 0 == some .gt) = true
          rw [gt_iff f fZ, vZ]
          exact decide_eq_true vz
      rw [if_neg (by rw [c0.1]; decide), if_pos c0.2]
      rw [← hz1] at s
      exact ⟨s.1, _, s.2, by rw [if_neg hn]⟩
end Go.Proofs.YtnkpcjmmingkkaaDoor.F64
