/- Go's atan of a quotient: the angle of the two legs. -/
import Derived.Test.YtnkpcjmmingkkaaDoorWa
import Derived.Test.YtnkpcjmmingkkaaDoorDv
namespace Go.Proofs.YtnkpcjmmingkkaaDoor.F64
open Go Go.RowKit Go.Lib Go.Proofs.YtnkpcjmmingkkaaDoor.FL
set_option linter.unusedVariables false
theorem f66 : FL.Fin 4604119971053405471 := by unfold FL.Fin; decide
theorem v66 : 659 / 1000 ≤ rv 4604119971053405471 ∧ rv 4604119971053405471 ≤ 6600001 / 10000000 := by decide +kernel
theorem fT38 : FL.Fin 4612618744449965542 := by unfold FL.Fin; decide
theorem vT38 : 241 / 100 ≤ rv 4612618744449965542 ∧ rv 4612618744449965542 ≤ 2415 / 1000 := by decide +kernel
theorem satV_ang {a b : Rat} {z : Nat} (ha : 0 ≤ a) (hb : 0 ≤ b) (f : FL.Fin z) (h0 : 0 < rv z) (r1 : -((a + b) / 1000000000000000) ≤ a * rv z - b) (r2 : a * rv z - b ≤ (a + b) / 1000000000000000) : FL.Fin (satV z) ∧ PL.Ang a b (rv (satV z)) := by
  unfold satV
  have l : (FloatKind.f64.format.order z 4604119971053405471 == some .lt || FloatKind.f64.format.order z 4604119971053405471 == some .eq) = decide (rv z ≤ rv 4604119971053405471) := le_iff f f66
  have g : (FloatKind.f64.format.order z 4612618744449965542 == some .gt) = decide (rv 4612618744449965542 < rv z) := gt_iff f fT38
  have b6 := v66
  have bT := vT38
  by_cases h1 : rv z ≤ rv 4604119971053405471
  · rw [if_pos (l.trans (decide_eq_true h1))]
    exact satA_ang ha hb f (by grind) (by grind) (by grind) (by grind)
  · rw [if_neg (by rw [l, decide_eq_false h1]; decide)]
    by_cases h2 : rv 4612618744449965542 < rv z
    · rw [if_pos (g.trans (decide_eq_true h2))]
      have zn : rv z ≠ 0 := by grind
      have s0 : 1 / rv z * rv z = 1 := Rat.div_mul_cancel zn
      obtain ⟨s, hs⟩ : ∃ s, 1 / rv z = s := ⟨_, rfl⟩
      have sp : 0 ≤ s := by
        rw [hs] at s0
        apply Classical.byContradiction
        intro hc
        have := Rat.mul_pos (show 0 < -s by grind) h0
        grind
      have sl : s ≤ 42 / 100 := by
        rw [hs] at s0
        apply Classical.byContradiction
        intro hc
        have := Rat.mul_pos (show 0 < s - 42 / 100 by grind) (show 0 < rv z - 24 / 10 by grind)
        grind
      have r := fdiv fOne f zn (by rw [vOne, hs]; grind) (by rw [vOne, hs]; grind)
      rw [vOne, hs] at r
      rw [hs] at s0
      have e := r.err 1 (by grind) (by grind)
      rw [u53_eq] at e
      have el := eta_le
      have n0 := r.above 0 fZ (by rw [vZ]; exact sp)
      rw [vZ] at n0
      generalize fop .quo 4607182418800017408 z = w at *
      have k1 := mul_abs (x := b) (d := rv w - s) (X := b) (E := 2 / 1000000000000000) (by grind) (by grind) (by grind) (by grind)
      have k2 := mul_abs (x := a * rv z - b) (d := s) (X := (a + b) / 1000000000000000) (E := 42 / 100) r1 r2 (by grind) sl
      have id : b * rv w - a = b * (rv w - s) - (a * rv z - b) * s := by
        have : a * (s * rv z) = a := by rw [s0]; grind
        grind
      exact satS_ang ha hb r.fin n0 (by grind) (by rw [id]; grind) (by rw [id]; grind)
    · rw [if_neg (by rw [g, decide_eq_false h2]; decide)]
      exact satB_ang ha hb f (by grind) (by grind) r1 r2
/-- A word beyond all measure. -/
theorem satV_huge {a b : Rat} {z : Nat} (ha : 0 ≤ a) (hb : 0 ≤ b) (hz : 2044 * 2 ^ 52 ≤ z) (hz2 : z ≤ 2047 * 2 ^ 52) (hab : a * 10 ^ 20 ≤ b) : FL.Fin (satV z) ∧ PL.Ang a b (rv (satV z)) := by
  have key : ∃ s, FL.Fin s ∧ 0 ≤ rv s ∧ rv s ≤ 1 / 10 ^ 20 ∧ satV z = satS s := by
    by_cases hi : z = 2047 * 2 ^ 52
    · subst hi
      exact ⟨0, fZ, by rw [vZ]; decide +kernel, by rw [vZ]; decide +kernel, by decide +kernel⟩
    · have f : FL.Fin z := by unfold FL.Fin; omega
      obtain ⟨E, K, hK, hE, hw, hv⟩ := fin_form f
      rw [Nat.mod_eq_of_lt (by omega)] at hw
      have hE2 : 2043 ≤ E := by omega
      have hK2 : 2 ^ 52 ≤ K := by omega
      rw [show (z / 2 ^ 63 % 2 == 1) = false by rw [Nat.div_eq_of_lt (by omega)]; rfl] at hv
      have hbig : 10 ^ 30 ≤ rv z := by
        have a1 : ((1 : Nat) : Rat) * p2 900 ≤ (K : Rat) * p2 ((E : Int) - 1074) := by
          have b1 : ((1 : Nat) : Rat) * p2 900 ≤ ((1 : Nat) : Rat) * p2 ((E : Int) - 1074) := Rat.mul_le_mul_of_nonneg_left (p2_le (by omega)) (natCast_nn _)
          have b2 : ((1 : Nat) : Rat) * p2 ((E : Int) - 1074) ≤ (K : Rat) * p2 ((E : Int) - 1074) := Rat.mul_le_mul_of_nonneg_right (by exact_mod_cast (show 1 ≤ K by omega)) (Rat.le_of_lt (p2_pos _))
          grind
        have a2 : (10 ^ 30 : Rat) ≤ p2 900 := by unfold p2; decide +kernel
        rw [hv]
        simp only [sg, Bool.false_eq_true, if_false]
        rw [show (((1 : Nat)) : Rat) = 1 by rfl] at a1
        grind
      have p30 : (0 : Rat) < 10 ^ 30 := by decide +kernel
      have zn : rv z ≠ 0 := by grind
      have s0 : 1 / rv z * rv z = 1 := Rat.div_mul_cancel zn
      obtain ⟨s, hs⟩ : ∃ s, 1 / rv z = s := ⟨_, rfl⟩
      have t30 : (1 / 10 ^ 30 * 10 ^ 30 : Rat) = 1 := by decide +kernel
      have sp : 0 ≤ s := by
        rw [hs] at s0
        apply Classical.byContradiction
        intro hc
        have := Rat.mul_pos (show 0 < -s by grind) (show 0 < rv z by grind)
        grind
      have sl : s ≤ 1 / 10 ^ 30 := by
        rw [hs] at s0
        apply Classical.byContradiction
        intro hc
        have := Rat.mul_pos (show 0 < s - 1 / 10 ^ 30 by grind) (show 0 < rv z by grind)
        have := Rat.mul_le_mul_of_nonneg_left hbig (show (0 : Rat) ≤ 1 / 10 ^ 30 by decide +kernel)
        grind
      have s1 : (1 / 10 ^ 30 : Rat) ≤ 1 := by decide +kernel
      have r := fdiv fOne f zn (by rw [vOne, hs]; grind) (by rw [vOne, hs]; grind)
      rw [vOne, hs] at r
      have e := r.err (1 / 10 ^ 30) (by grind) (by grind)
      rw [u53_eq] at e
      have el := eta_le
      have n0 := r.above 0 fZ (by rw [vZ]; exact sp)
      rw [vZ] at n0
      have c20 : (1 / 10 ^ 30 + (1 / 10 ^ 30 * (1 / 9007199254740992) + 1 / 1000000000000000000000000000000000000000000000000000000000000) : Rat) ≤ 1 / 10 ^ 20 := by decide +kernel
      refine ⟨_, r.fin, n0, by grind, ?_⟩
      unfold satV
      have l : (FloatKind.f64.format.order z 4604119971053405471 == some .lt || FloatKind.f64.format.order z 4604119971053405471 == some .eq) = decide (rv z ≤ rv 4604119971053405471) := le_iff f f66
      have g : (FloatKind.f64.format.order z 4612618744449965542 == some .gt) = decide (rv 4612618744449965542 < rv z) := gt_iff f fT38
      have b6 := v66
      have bT := vT38
      have h31 : (3 : Rat) ≤ 10 ^ 30 := by decide +kernel
      rw [if_neg (by rw [l, decide_eq_false (show ¬ rv z ≤ rv 4604119971053405471 by grind)]; decide), if_pos (g.trans (decide_eq_true (show rv 4612618744449965542 < rv z by grind)))]
  obtain ⟨s, fs, s0, s1, e⟩ := key
  rw [e]
  have u0 : (0 : Rat) ≤ 1 / 10 ^ 20 := by decide +kernel
  have k := mul_abs (x := b) (d := rv s) (X := b) (E := 1 / 10 ^ 20) (by grind) (by grind) (by grind) s1
  have c1 : (1 / 10 ^ 20 : Rat) * 1000000000000000 ≤ 1 := by decide +kernel
  have c2 : (1000000000000000 : Rat) ≤ 10 ^ 20 := by decide +kernel
  have c3 := Rat.mul_nonneg ha (show (0 : Rat) ≤ 10 ^ 20 - 1000000000000000 by grind)
  have c4 := Rat.mul_nonneg hb (show (0 : Rat) ≤ 1 - 1 / 10 ^ 20 * 1000000000000000 by grind)
  have n := Rat.mul_nonneg hb s0
  have hs66 : (1 / 10 ^ 20 : Rat) ≤ 6601 / 10000 := by decide +kernel
  generalize (10 ^ 20 : Rat) = T at *
  generalize (1 / T : Rat) = U at *
  exact satS_ang ha hb fs s0 (by grind) (by grind) (by grind)
end Go.Proofs.YtnkpcjmmingkkaaDoor.F64
