/- The way back: from a hue's sine and cosine to Atan2's angle. -/
import Derived.Test.YtnkpcjmmingkkaaDoorInv
import Derived.Test.YtnkpcjmmingkkaaDoorLl
namespace Go.Proofs.YtnkpcjmmingkkaaDoor.F64
open Go Go.RowKit Go.Lib Go.Proofs.YtnkpcjmmingkkaaDoor.FL
set_option linter.unusedVariables false
theorem ab_near {x y e : Rat} (h1 : -e ≤ x - y) (h2 : x - y ≤ e) : -e ≤ PL.ab x - PL.ab y ∧ PL.ab x - PL.ab y ≤ e := by
  unfold PL.ab
  split <;> split <;> constructor <;> grind
/-- Where a leg's sign says that the sine is not below nothing, the rest is hardly so. -/
theorem low_z {z e : Rat} (h1 : -(78541 / 100000) ≤ z) (h2 : z ≤ 78541 / 100000) (he : 0 ≤ e) (hs : -e ≤ PL.Sv z) : -(2 * e) ≤ z := by
  obtain ⟨d, hd, d1, -⟩ := PL.Sv_up (y := z) (z := 0) (by grind) (by grind) (by grind) (by grind)
  have s0 : PL.Sv 0 = 0 := by unfold PL.Sv; grind
  apply Classical.byContradiction
  intro hn
  have := Rat.mul_nonneg (show 0 ≤ -(2 * e) - z by grind) (show 0 ≤ d - 65 / 100 by grind)
  have := Rat.mul_nonneg he (show 0 ≤ d - 65 / 100 by grind)
  grind
theorem high_z {z e : Rat} (h1 : -(78541 / 100000) ≤ z) (h2 : z ≤ 78541 / 100000) (he : 0 ≤ e) (hs : PL.Sv z ≤ e) : z ≤ 2 * e := by
  have := low_z (z := -z) (e := e) (by grind) (by grind) he (by rw [PL.Sv_neg]; grind)
  grind
theorem sgn_true {c : Rat} (h : c = sgn true (PL.ab c)) : c ≤ 0 := by
  have := ab_nn c
  simp only [sgn, if_true] at h
  grind
theorem sgn_false {c : Rat} (h : c = sgn false (PL.ab c)) : 0 ≤ c := by
  have := ab_nn c
  simp only [sgn, Bool.false_eq_true, if_false] at h
  grind
/-- The rest's absolute value. -/
theorem sv_ab (z : Rat) (h1 : -(78541 / 100000) ≤ z) (h2 : z ≤ 78541 / 100000) : PL.ab (PL.Sv z) = PL.Sv (PL.ab z) ∧ PL.Cv (PL.ab z) = PL.Cv z := by
  have key : ∀ y : Rat, 0 ≤ y → y ≤ 78541 / 100000 → 0 ≤ PL.Sv y := fun y y1 y2 => by
    obtain ⟨d, hd, d1, -⟩ := PL.Sv_up (y := y) (z := 0) (by grind) (by grind) (by grind) (by grind)
    have s0 : PL.Sv 0 = 0 := by unfold PL.Sv; grind
    have := Rat.mul_nonneg y1 (show 0 ≤ d by grind)
    grind
  by_cases hz : z < 0
  · rw [ab_neg hz, PL.Cv_neg, PL.Sv_neg]
    have := key (-z) (by grind) (by grind)
    rw [PL.Sv_neg] at this
    exact ⟨by unfold PL.ab; split <;> grind, rfl⟩
  · rw [ab_pos (show 0 ≤ z by grind)]
    have := key z (by grind) h2
    exact ⟨ab_pos this, rfl⟩
/-- Atan2's angle of legs a and b that are c times cosine and sine of the octant o and the rest z. -/
theorem turnback {a b c q z : Rat} {o : Int} {sx sy : Bool} (h : PL.Ang (PL.ab a) (PL.ab b) q) (hx : a = sgn sx (PL.ab a)) (hy : b = sgn sy (PL.ab b)) (hc : 0 < c) (ho : o = 0 ∨ o = 2 ∨ o = 4 ∨ o = 6) (z1 : -(78541 / 100000) ≤ z) (z2 : z ≤ 78541 / 100000)
    (a1 : -(c / 1000000000000) ≤ a - c * cosY o z) (a2 : a - c * cosY o z ≤ c / 1000000000000) (b1 : -(c / 1000000000000) ≤ b - c * sinY o z) (b2 : b - c * sinY o z ≤ c / 1000000000000) :
    ∃ k : Int, -(14 / 100000000000) ≤ th sx sy q - (z + (o : Rat) * PL.p4 - 8 * (k : Rat) * PL.p4) ∧ th sx sy q - (z + (o : Rat) * PL.p4 - 8 * (k : Rat) * PL.p4) ≤ 14 / 100000000000 := by
  have pb := PL.p4_bd
  have Cg := PL.Cv_ge (y := z) (by grind) (by grind)
  have cC := Rat.mul_le_mul_of_nonneg_left Cg (Rat.le_of_lt hc)
  obtain ⟨e1, e2⟩ := sv_ab z z1 z2
  have zn := ab_nn z
  have zb : PL.ab z ≤ 78541 / 100000 := by unfold PL.ab; split <;> grind
  have abc : ∀ x : Rat, PL.ab (c * x) = c * PL.ab x := fun x => by
    have := ab_quo (x := c) (y := c * x) (q := x) (by grind)
    rw [ab_pos (Rat.le_of_lt hc)] at this
    exact this.symm
  have abCv : PL.ab (PL.Cv z) = PL.Cv z := ab_pos (by grind)
  have abn : ∀ x : Rat, PL.ab (-x) = PL.ab x := fun x => by unfold PL.ab; split <;> split <;> grind
  have na := ab_near a1 a2
  have nb := ab_near b1 b2
  rw [abc] at na nb
  have i0 : (((0 : Int)) : Rat) = 0 := by rfl
  have i1 : (((1 : Int)) : Rat) = 1 := by rfl
  have i2 : (((2 : Int)) : Rat) = 2 := by rfl
  have i4 : (((4 : Int)) : Rat) = 4 := by rfl
  have i6 : (((6 : Int)) : Rat) = 6 := by rfl
  -- a leg that bears a sign
  have lowS : 0 ≤ c * PL.Sv z + c / 1000000000000 → -(2 / 1000000000000) ≤ z := fun hh => by
    have : c * -(1 / 1000000000000) ≤ c * PL.Sv z := by grind
    have := Rat.le_of_mul_le_mul_left this hc
    have := low_z z1 z2 (show (0 : Rat) ≤ 1 / 1000000000000 by decide +kernel) this
    grind
  have highS : c * PL.Sv z ≤ c / 1000000000000 → z ≤ 2 / 1000000000000 := fun hh => by
    have : c * PL.Sv z ≤ c * (1 / 1000000000000) := by grind
    have := Rat.le_of_mul_le_mul_left this hc
    have := high_z z1 z2 (show (0 : Rat) ≤ 1 / 1000000000000 by decide +kernel) this
    grind
  have zc : (PL.ab z = z ∨ PL.ab z = -z) := ab_or z
  rcases ho with rfl | rfl | rfl | rfl
  · -- cosine C, sine S
    have ea : cosY 0 z = PL.Cv z := rfl
    have eb : sinY 0 z = PL.Sv z := rfl
    rw [ea] at a1 a2 na
    rw [eb] at b1 b2 nb
    rw [abCv] at na
    rw [e1] at nb
    have v := PL.inv (ab_nn a) (ab_nn b) h hc zn zb (by rw [e2]; exact na.1) (by rw [e2]; exact na.2) nb.1 nb.2
    cases sx with
    | true => exfalso; have := sgn_true hx; grind
    | false =>
      cases sy with
      | false =>
        have hb := sgn_false hy
        have zl := lowS (by grind)
        refine ⟨0, ?_, ?_⟩ <;> rw [i0] <;> simp only [th, Bool.false_eq_true, if_false] <;> rcases zc with e | e <;> grind
      | true =>
        have hb := sgn_true hy
        have zl := highS (by grind)
        refine ⟨0, ?_, ?_⟩ <;> rw [i0] <;> simp only [th, Bool.false_eq_true, if_false, if_true] <;> rcases zc with e | e <;> grind
  · -- cosine -S, sine C
    have ea : cosY 2 z = -PL.Sv z := rfl
    have eb : sinY 2 z = PL.Cv z := rfl
    rw [ea] at a1 a2 na
    rw [eb] at b1 b2 nb
    rw [abCv] at nb
    rw [abn, e1] at na
    have v := PL.inv (ab_nn b) (ab_nn a) h.swap hc zn zb (by rw [e2]; exact nb.1) (by rw [e2]; exact nb.2) na.1 na.2
    cases sy with
    | true => exfalso; have := sgn_true hy; grind
    | false =>
      cases sx with
      | false =>
        have hb := sgn_false hx
        have zl := highS (by grind)
        refine ⟨0, ?_, ?_⟩ <;> rw [i0, i2] <;> simp only [th, Bool.false_eq_true, if_false] <;> rcases zc with e | e <;> grind
      | true =>
        have hb := sgn_true hx
        have zl := lowS (by grind)
        refine ⟨0, ?_, ?_⟩ <;> rw [i0, i2] <;> simp only [th, Bool.false_eq_true, if_false, if_true] <;> rcases zc with e | e <;> grind
  · -- cosine -C, sine -S
    have ea : cosY 4 z = -PL.Cv z := rfl
    have eb : sinY 4 z = -PL.Sv z := rfl
    rw [ea] at a1 a2 na
    rw [eb] at b1 b2 nb
    rw [abn, abCv] at na
    rw [abn, e1] at nb
    have v := PL.inv (ab_nn a) (ab_nn b) h hc zn zb (by rw [e2]; exact na.1) (by rw [e2]; exact na.2) nb.1 nb.2
    cases sx with
    | false => exfalso; have := sgn_false hx; grind
    | true =>
      cases sy with
      | false =>
        have hb := sgn_false hy
        have zl := highS (by grind)
        refine ⟨0, ?_, ?_⟩ <;> rw [i0, i4] <;> simp only [th, Bool.false_eq_true, if_false, if_true] <;> rcases zc with e | e <;> grind
      | true =>
        have hb := sgn_true hy
        have zl := lowS (by grind)
        refine ⟨1, ?_, ?_⟩ <;> rw [i1, i4] <;> simp only [th, if_true] <;> rcases zc with e | e <;> grind
  · -- cosine S, sine -C
    have ea : cosY 6 z = PL.Sv z := rfl
    have eb : sinY 6 z = -PL.Cv z := rfl
    rw [ea] at a1 a2 na
    rw [eb] at b1 b2 nb
    rw [abn, abCv] at nb
    rw [e1] at na
    have v := PL.inv (ab_nn b) (ab_nn a) h.swap hc zn zb (by rw [e2]; exact nb.1) (by rw [e2]; exact nb.2) na.1 na.2
    cases sy with
    | false => exfalso; have := sgn_false hy; grind
    | true =>
      cases sx with
      | false =>
        have hb := sgn_false hx
        have zl := lowS (by grind)
        refine ⟨1, ?_, ?_⟩ <;> rw [i1, i6] <;> simp only [th, Bool.false_eq_true, if_false, if_true] <;> rcases zc with e | e <;> grind
      | true =>
        have hb := sgn_true hx
        have zl := highS (by grind)
        refine ⟨1, ?_, ?_⟩ <;> rw [i1, i6] <;> simp only [th, if_true] <;> rcases zc with e | e <;> grind
end Go.Proofs.YtnkpcjmmingkkaaDoor.F64
