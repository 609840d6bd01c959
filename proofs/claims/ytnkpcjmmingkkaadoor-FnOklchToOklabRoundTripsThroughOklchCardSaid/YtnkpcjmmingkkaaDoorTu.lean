/- What Atan2's answer is: the angle of the legs, up to whole turns. -/
import Derived.Test.YtnkpcjmmingkkaaDoorA2
namespace Go.Proofs.YtnkpcjmmingkkaaDoor.F64
open Go Go.RowKit Go.Lib Go.Proofs.YtnkpcjmmingkkaaDoor.FL
set_option linter.unusedVariables false
/-- The angle in its quadrant. -/
def th (sx sy : Bool) (q : Rat) : Rat := if sy = true then -(if sx = true then 4 * PL.p4 - q else q) else (if sx = true then 4 * PL.p4 - q else q)
def sgn (s : Bool) (c : Rat) : Rat := if s = true then -c else c
structure Turn (y x : Nat) (v : Rat) : Prop where
  ex : ∃ (q : Rat) (k : Int) (sx sy : Bool), PL.Ang (PL.ab (rv x)) (PL.ab (rv y)) q ∧ rv x = sgn sx (PL.ab (rv x)) ∧ rv y = sgn sy (PL.ab (rv y)) ∧ -(1 / 100000000000000) ≤ v - (th sx sy q + 8 * (k : Rat) * PL.p4) ∧ v - (th sx sy q + 8 * (k : Rat) * PL.p4) ≤ 1 / 100000000000000
  b1 : -(315 / 100) ≤ v
  b2 : v ≤ 315 / 100
theorem quo_nan (y x : Nat) (fy : FL.Fin y) (fx : FL.Fin x) (hx : rv x ≠ 0) : ¬ IsNaN (fop .quo y x) := by
  by_cases hbig : -p2 1023 ≤ rv y / rv x ∧ rv y / rv x ≤ p2 1023
  · obtain ⟨z, hz, r, -⟩ := div_rnd fy fx hx hbig.1 hbig.2
    rw [fop_some (op := .quo) hz]
    have := r.fin
    unfold IsNaN; unfold FL.Fin at this; omega
  · have hout : p2 1023 < rv y / rv x ∨ rv y / rv x < -p2 1023 := by
      rcases Classical.em (rv y / rv x ≤ p2 1023) with h | h
      · right
        apply Classical.byContradiction
        intro hc
        exact hbig ⟨by grind, h⟩
      · left; grind
    obtain ⟨z, hz, -, -, h2, -⟩ := div_big fy fx hx hout
    rw [fop_some (op := .quo) hz]
    unfold IsNaN; omega
theorem q00 : (((0 : Int)) : Rat) = 0 := by rfl
theorem q01 : (((1 : Int)) : Rat) = 1 := by rfl
theorem qm1 : (((-1 : Int)) : Rat) = -1 := by rfl
theorem w0 (s : Bool) : FL.Fin (wsg s 0) ∧ rv (wsg s 0) = 0 := by cases s <;> exact ⟨by unfold FL.Fin wsg; decide, by decide +kernel⟩
theorem wP (s : Bool) : FL.Fin (wsg s 4614256656552045848) ∧ -(1 / 1000000000000000) ≤ rv (wsg s 4614256656552045848) - sgn s (4 * PL.p4) ∧ rv (wsg s 4614256656552045848) - sgn s (4 * PL.p4) ≤ 1 / 1000000000000000 := by
  cases s <;> exact ⟨by unfold FL.Fin wsg; decide, by decide +kernel, by decide +kernel⟩
theorem wH (s : Bool) : FL.Fin (wsg s 4609753056924675352) ∧ -(1 / 1000000000000000) ≤ rv (wsg s 4609753056924675352) - sgn s (2 * PL.p4) ∧ rv (wsg s 4609753056924675352) - sgn s (2 * PL.p4) ≤ 1 / 1000000000000000 := by
  cases s <;> exact ⟨by unfold FL.Fin wsg; decide, by decide +kernel, by decide +kernel⟩
theorem fPi : FL.Fin 4614256656552045848 := by unfold FL.Fin; decide
theorem vPi : -(1 / 1000000000000000) ≤ rv 4614256656552045848 - 4 * PL.p4 ∧ rv 4614256656552045848 - 4 * PL.p4 ≤ 1 / 1000000000000000 := by decide +kernel
theorem sgn_ab (c : Rat) : ∃ s, c = sgn s (PL.ab c) ∧ (s = true ↔ c < 0) := by
  by_cases h : c < 0
  · exact ⟨true, by rw [ab_neg h]; simp only [sgn, if_true]; grind, by simp [h]⟩
  · exact ⟨false, by rw [ab_pos (by grind)]; simp only [sgn, Bool.false_eq_true, if_false], by simp [h]⟩
theorem sign_bit {x : Nat} (f : FL.Fin x) : rv x = sgn (x / 2 ^ 63 % 2 == 1) (PL.ab (rv x)) := by
  obtain ⟨E, K, hK, hE, hw, hv⟩ := fin_form f
  have n := mulp_nn K ((E : Int) - 1074)
  cases hs : (x / 2 ^ 63 % 2 == 1)
  · rw [hs] at hv
    simp only [sg, Bool.false_eq_true, if_false] at hv
    rw [ab_pos (by rw [hv]; grind)]; simp only [sgn, Bool.false_eq_true, if_false]
  · rw [hs] at hv
    simp only [sg, if_true] at hv
    have : rv x ≤ 0 := by rw [hv]; grind
    have : PL.ab (rv x) = -rv x := by unfold PL.ab; split <;> grind
    rw [this]; simp only [sgn, if_true]; grind
theorem ge_order {x : Nat} (f : FL.Fin x) : (FloatKind.f64.format.order x 0 == some .gt || FloatKind.f64.format.order x 0 == some .eq) = decide (0 ≤ rv x) := by
  show (Ieee.double.order x 0 == some .gt || Ieee.double.order x 0 == some .eq) = _
  rw [ge_iff f fZ, vZ]
theorem le_order {x : Nat} (f : FL.Fin x) : (FloatKind.f64.format.order x 0 == some .lt || FloatKind.f64.format.order x 0 == some .eq) = decide (rv x ≤ 0) := by
  show (Ieee.double.order x 0 == some .lt || Ieee.double.order x 0 == some .eq) = _
  rw [le_iff f fZ, vZ]
theorem quo_sign {x y q : Rat} (hx : x ≠ 0) (h : q * x = y) (hy : y ≠ 0) : (q < 0 ↔ ((x < 0 ∧ 0 < y) ∨ (0 < x ∧ y < 0))) := by
  constructor
  · intro hq
    rcases (show x < 0 ∨ 0 < x by grind) with h1 | h1
    · left; refine ⟨h1, ?_⟩
      have := Rat.mul_pos (show 0 < -q by grind) (show 0 < -x by grind); grind
    · right; refine ⟨h1, ?_⟩
      have := Rat.mul_pos (show 0 < -q by grind) h1; grind
  · rintro (⟨h1, h2⟩ | ⟨h1, h2⟩)
    · apply Classical.byContradiction
      intro hc
      have := Rat.mul_nonneg (show 0 ≤ q by grind) (show 0 ≤ -x by grind); grind
    · apply Classical.byContradiction
      intro hc
      have := Rat.mul_nonneg (show 0 ≤ q by grind) (show 0 ≤ x by grind); grind
theorem a2_turn (y x : Nat) (fy : FL.Fin y) (fx : FL.Fin x) : FL.Fin (a2V y x) ∧ Turn y x (rv (a2V y x)) := by
  have pb := PL.p4_bd
  have ha := ab_nn (rv x)
  have hb := ab_nn (rv y)
  have o0 := zero_order fy
  have x0 := zero_order fx
  have xg := ge_order fx
  have xl := neg_order fx
  unfold a2V
  rw [xg, o0, x0, xl]
  by_cases hy : rv y = 0
  · rw [if_pos (decide_eq_true hy)]
    have hb0 : PL.ab (rv y) = 0 := by rw [hy]; exact ab_pos (Rat.le_refl)
    have A0 : PL.Ang (PL.ab (rv x)) (PL.ab (rv y)) 0 := ang_zero ha hb (by rw [hb0]; grind)
    by_cases hc : decide (0 ≤ rv x) = true ∧ (x / 2 ^ 63 % 2 == 1) = false
    · rw [if_pos hc]
      obtain ⟨f, v⟩ := w0 (y / 2 ^ 63 % 2 == 1)
      have hx0 := of_decide_eq_true hc.1
      refine ⟨f, ⟨⟨0, 0, false, false, A0, ?_, ?_, ?_, ?_⟩, by rw [v]; decide +kernel, by rw [v]; decide +kernel⟩⟩
      · rw [ab_pos hx0]; simp only [sgn, Bool.false_eq_true, if_false]
      · rw [hb0, hy]; simp only [sgn, Bool.false_eq_true, if_false]
      · rw [v, q00]; simp only [th, Bool.false_eq_true, if_false]; grind
      · rw [v, q00]; simp only [th, Bool.false_eq_true, if_false]; grind
    · rw [if_neg hc]
      obtain ⟨f, v1, v2⟩ := wP (y / 2 ^ 63 % 2 == 1)
      have hxs : rv x = sgn true (PL.ab (rv x)) := by
        by_cases h0 : 0 ≤ rv x
        · have hs : (x / 2 ^ 63 % 2 == 1) = true := by
            cases h : (x / 2 ^ 63 % 2 == 1)
            · exact absurd ⟨decide_eq_true h0, h⟩ hc
            · rfl
          have := sign_bit fx
          rw [hs] at this; exact this
        · rw [ab_neg (by grind)]; simp only [sgn, if_true]; grind
      have hys := sign_bit fy
      have e : th true (y / 2 ^ 63 % 2 == 1) 0 = sgn (y / 2 ^ 63 % 2 == 1) (4 * PL.p4) := by
        cases (y / 2 ^ 63 % 2 == 1) <;> simp only [th, sgn, if_true, Bool.false_eq_true, if_false] <;> grind
      have bb : -(4 * PL.p4) ≤ sgn (y / 2 ^ 63 % 2 == 1) (4 * PL.p4) ∧ sgn (y / 2 ^ 63 % 2 == 1) (4 * PL.p4) ≤ 4 * PL.p4 := by
        cases (y / 2 ^ 63 % 2 == 1) <;> simp only [sgn, if_true, Bool.false_eq_true, if_false] <;> constructor <;> grind
      refine ⟨f, ⟨⟨0, 0, true, _, A0, hxs, hys, ?_, ?_⟩, by grind, by grind⟩⟩
      · rw [e, q00]; grind
      · rw [e, q00]; grind
  · rw [if_neg (by rw [decide_eq_false hy]; decide)]
    by_cases hx : rv x = 0
    · rw [if_pos (decide_eq_true hx)]
      have ha0 : PL.ab (rv x) = 0 := by rw [hx]; exact ab_pos (Rat.le_refl)
      have A0 : PL.Ang (PL.ab (rv x)) (PL.ab (rv y)) (2 * PL.p4) := by
        have := (ang_zero hb ha (by rw [ha0]; grind)).swap
        rw [show 2 * PL.p4 - 0 = 2 * PL.p4 by grind] at this
        exact this
      obtain ⟨f, v1, v2⟩ := wH (y / 2 ^ 63 % 2 == 1)
      have hys := sign_bit fy
      have e : th false (y / 2 ^ 63 % 2 == 1) (2 * PL.p4) = sgn (y / 2 ^ 63 % 2 == 1) (2 * PL.p4) := by
        cases (y / 2 ^ 63 % 2 == 1) <;> simp only [th, sgn, if_true, Bool.false_eq_true, if_false]
      have bb : -(2 * PL.p4) ≤ sgn (y / 2 ^ 63 % 2 == 1) (2 * PL.p4) ∧ sgn (y / 2 ^ 63 % 2 == 1) (2 * PL.p4) ≤ 2 * PL.p4 := by
        cases (y / 2 ^ 63 % 2 == 1) <;> simp only [sgn, if_true, Bool.false_eq_true, if_false] <;> constructor <;> grind
      refine ⟨f, ⟨⟨2 * PL.p4, 0, false, _, A0, ?_, hys, ?_, ?_⟩, by grind, by grind⟩⟩
      · rw [ha0, hx]; simp only [sgn, Bool.false_eq_true, if_false]
      · rw [e, q00]; grind
      · rw [e, q00]; grind
    · rw [if_neg (by rw [decide_eq_false hx]; decide)]
      obtain ⟨fq, q, A, hv⟩ := atanQ y x fy fx hy hx
      have hs := quo_sign hx (Rat.div_mul_cancel hx) hy
      generalize rv y / rv x = ρ at *
      generalize atanV (fop .quo y x) = q0 at *
      have q1 := A.r0
      have q2 := A.r1
      by_cases hxl : rv x < 0
      · rw [if_pos (decide_eq_true hxl), le_order fq]
        have hxs : rv x = sgn true (PL.ab (rv x)) := by rw [ab_neg hxl]; simp only [sgn, if_true]; grind
        have qb : -(16 / 10) ≤ rv q0 ∧ rv q0 ≤ 16 / 10 := by rw [hv]; split <;> constructor <;> grind
        have pv := vPi
        by_cases hyp : 0 < rv y
        · have hρ : ρ < 0 := hs.2 (.inl ⟨hxl, hyp⟩)
          rw [if_pos hρ] at hv
          have hys : rv y = sgn false (PL.ab (rv y)) := by rw [ab_pos (Rat.le_of_lt hyp)]; simp only [sgn, Bool.false_eq_true, if_false]
          by_cases h0 : rv q0 ≤ 0
          · rw [if_pos (decide_eq_true h0)]
            have r := fadd fq fPi (by grind) (by grind)
            have e := r.err 5 (by grind) (by grind)
            rw [u53_eq] at e
            have el := eta_le
            refine ⟨r.fin, ⟨⟨q, 0, true, false, A, hxs, hys, ?_, ?_⟩, by grind, by grind⟩⟩
            · rw [q00]; simp only [th, if_true, Bool.false_eq_true, if_false]; grind
            · rw [q00]; simp only [th, if_true, Bool.false_eq_true, if_false]; grind
          · rw [if_neg (by rw [decide_eq_false h0]; decide)]
            have r := fsub fq fPi (by grind) (by grind)
            have e := r.err 5 (by grind) (by grind)
            rw [u53_eq] at e
            have el := eta_le
            refine ⟨r.fin, ⟨⟨q, -1, true, false, A, hxs, hys, ?_, ?_⟩, by grind, by grind⟩⟩
            · rw [qm1]; simp only [th, if_true, Bool.false_eq_true, if_false]; grind
            · rw [qm1]; simp only [th, if_true, Bool.false_eq_true, if_false]; grind
        · have hρ : ¬ ρ < 0 := by
            intro h
            rcases hs.1 h with h | h <;> grind
          rw [if_neg hρ] at hv
          have hys : rv y = sgn true (PL.ab (rv y)) := by rw [ab_neg (by grind)]; simp only [sgn, if_true]; grind
          by_cases h0 : rv q0 ≤ 0
          · rw [if_pos (decide_eq_true h0)]
            have r := fadd fq fPi (by grind) (by grind)
            have e := r.err 5 (by grind) (by grind)
            rw [u53_eq] at e
            have el := eta_le
            refine ⟨r.fin, ⟨⟨q, 1, true, true, A, hxs, hys, ?_, ?_⟩, by grind, by grind⟩⟩
            · rw [q01]; simp only [th, if_true]; grind
            · rw [q01]; simp only [th, if_true]; grind
          · rw [if_neg (by rw [decide_eq_false h0]; decide)]
            have r := fsub fq fPi (by grind) (by grind)
            have e := r.err 5 (by grind) (by grind)
            rw [u53_eq] at e
            have el := eta_le
            refine ⟨r.fin, ⟨⟨q, 0, true, true, A, hxs, hys, ?_, ?_⟩, by grind, by grind⟩⟩
            · rw [q00]; simp only [th, if_true]; grind
            · rw [q00]; simp only [th, if_true]; grind
      · rw [if_neg (by rw [decide_eq_false hxl]; decide)]
        have hxp : 0 < rv x := by grind
        have hxs : rv x = sgn false (PL.ab (rv x)) := by rw [ab_pos (Rat.le_of_lt hxp)]; simp only [sgn, Bool.false_eq_true, if_false]
        by_cases hyp : 0 < rv y
        · have hρ : ¬ ρ < 0 := by
            intro h
            rcases hs.1 h with h | h <;> grind
          rw [if_neg hρ] at hv
          have hys : rv y = sgn false (PL.ab (rv y)) := by rw [ab_pos (Rat.le_of_lt hyp)]; simp only [sgn, Bool.false_eq_true, if_false]
          refine ⟨fq, ⟨⟨q, 0, false, false, A, hxs, hys, ?_, ?_⟩, by grind, by grind⟩⟩
          · rw [hv, q00]; simp only [th, Bool.false_eq_true, if_false]; grind
          · rw [hv, q00]; simp only [th, Bool.false_eq_true, if_false]; grind
        · have hρ : ρ < 0 := hs.2 (.inr ⟨hxp, by grind⟩)
          rw [if_pos hρ] at hv
          have hys : rv y = sgn true (PL.ab (rv y)) := by rw [ab_neg (by grind)]; simp only [sgn, if_true]; grind
          refine ⟨fq, ⟨⟨q, 0, false, true, A, hxs, hys, ?_, ?_⟩, by grind, by grind⟩⟩
          · rw [hv, q00]; simp only [th, if_true, Bool.false_eq_true, if_false]; grind
          · rw [hv, q00]; simp only [th, if_true, Bool.false_eq_true, if_false]; grind
end Go.Proofs.YtnkpcjmmingkkaaDoor.F64
