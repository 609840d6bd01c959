/- hwbToRgb and the closed form of CSS: both stay within a small distance of one piecewise linear curve. Plain Lean. -/
import Derived.Test.YtcaiehnihgcegaaGray
namespace Go.Proofs.Ytcaiehnihgcegaa.F64
open Go.Proofs.Ytcaiehnihgcegaa.FL

def ee : Rat := 1 / 4503599627370496
theorem ee_pos : 0 < ee := by unfold ee; decide +kernel
theorem ee_le : ee ≤ 1 / 4000000000000000 := by unfold ee; decide +kernel
theorem near {v : Rat} {z : Nat} (h : Rnd v z) (M : Rat) (h1 : 1 ≤ M) (a : -M ≤ v) (b : v ≤ M) : v - M * ee ≤ rv z ∧ rv z ≤ v + M * ee := by
  obtain ⟨x, y⟩ := h.err M a b
  have hu : u53 = ee / 2 := by rw [u53_eq]; unfold ee; decide +kernel
  have he := eta_le
  have hp : 1 / 1000000000000000000000000000000000000000000000000000000000000 ≤ ee / 2 := by unfold ee; decide +kernel
  have m := Rat.mul_nonneg (a := M - 1) (b := ee) (by grind) (Rat.le_of_lt ee_pos)
  rw [hu] at x y
  have e : M * (ee / 2) = M * ee / 2 := by grind
  rw [e] at x y
  constructor <;> grind

/-- The curve over a sixth of the turn. -/
def cl (y : Rat) : Rat := if y ≤ 0 then 0 else if y ≤ 1 then y else if y ≤ 3 then 1 else if y ≤ 4 then 4 - y else 0
theorem cl_lip {y z D : Rat} (h1 : -D ≤ y - z) (h2 : y - z ≤ D) : -D ≤ cl y - cl z ∧ cl y - cl z ≤ D := by
  unfold cl
  split <;> split <;> (try split) <;> (try split) <;> (try split) <;> (try split) <;> (try split) <;> (try split) <;> constructor <;> grind
theorem cl_bd (y : Rat) : 0 ≤ cl y ∧ cl y ≤ 1 := by
  unfold cl
  split <;> (try split) <;> (try split) <;> (try split) <;> constructor <;> grind
/-- CSS's curve over a twelfth. -/
def gf (k : Rat) : Rat := if k ≤ 2 then 1 else if k ≤ 4 then 2 - k / 2 else if k ≤ 8 then 0 else if k ≤ 10 then k / 2 - 4 else 1
theorem gf_cl {y k D : Rat} {i : Int} (hD : D ≤ 1/100) (hD0 : 0 ≤ D) (h : 2 * y = k + 4 + 12 * (i : Rat)) (y0 : -D ≤ y) (y1 : y ≤ 6 + D) (k0 : -D ≤ k) (k1 : k ≤ 12 + D) :
    -D ≤ cl y - gf k ∧ cl y - gf k ≤ D := by
  have hi : i = 0 ∨ i = -1 := by
    have a : i < 1 := by
      have : (i : Rat) < ((1 : Int) : Rat) := by show (i : Rat) < 1; grind
      exact Rat.intCast_lt_intCast.1 this
    have b : -2 < i := by
      have : ((-2 : Int) : Rat) < (i : Rat) := by show (-2 : Rat) < (i : Rat); grind
      exact Rat.intCast_lt_intCast.1 this
    omega
  rcases hi with rfl | rfl
  · have e : y = k / 2 + 2 := by have : ((0 : Int) : Rat) = 0 := rfl
                                 grind
    subst e
    unfold cl gf
    split <;> split <;> (try split) <;> (try split) <;> (try split) <;> (try split) <;> (try split) <;> (try split) <;> constructor <;> grind
  · have e : y = k / 2 - 4 := by have : ((-1 : Int) : Rat) = -1 := rfl
                                 grind
    subst e
    unfold cl gf
    split <;> split <;> (try split) <;> (try split) <;> (try split) <;> (try split) <;> (try split) <;> (try split) <;> constructor <;> grind

theorem lerp01 {a b h r : Nat} (ha : FL.Fin a) (hb : FL.Fin b) (va : rv a = 0) (vb : rv b = 1) (fh : FL.Fin h) (h1 : -100 ≤ rv h) (h2 : rv h ≤ 100) (hl : LerpR a b h r) : FL.Fin r ∧ rv r = rv h := by
  have hbig := big_le
  obtain ⟨d, p, q1, q2, q3⟩ := hl
  have R1 := res_sub q1 hb ha (by rw [va, vb]; grind) (by rw [va, vb]; grind)
  have z1 := R1.exact hb (by rw [va, vb]; grind)
  have z1 : rv d = 1 := by rw [z1, va, vb]; grind
  have R2 := res_mul q2 R1.fin fh (by rw [z1]; grind) (by rw [z1]; grind)
  have z2 := R2.exact fh (by rw [z1]; grind)
  have z2 : rv p = rv h := by rw [z2, z1]; grind
  have R3 := res_add q3 R2.fin ha (by rw [z2, va]; grind) (by rw [z2, va]; grind)
  exact ⟨R3.fin, by rw [R3.exact fh (by rw [z2, va]; grind), z2, va]; grind⟩

theorem ltB_iff {x y : Nat} (hx : FL.Fin x) (hy : FL.Fin y) : ltB x y = decide (rv x < rv y) := lt_iff hx hy
theorem f3 : FL.Fin 4613937818241073152 := by unfold FL.Fin; decide
theorem v3 : rv 4613937818241073152 = 3 := by decide +kernel
theorem fhalf : FL.Fin 4602678819172646912 := by unfold FL.Fin; decide
theorem vhalf : rv 4602678819172646912 = 1/2 := by decide +kernel

theorem hueP {a b x r : Nat} (ha : FL.Fin a) (hb : FL.Fin b) (va : rv a = 0) (vb : rv b = 1) (fx : FL.Fin x) (h1 : -100 ≤ rv x) (h2 : rv x ≤ 100) (hr : HueR a b x r) :
    ∃ m : Int, 0 ≤ 6 * (rv x - (m : Rat)) ∧ 6 * (rv x - (m : Rat)) ≤ 6 ∧ FL.Fin r ∧ -(20 * ee) ≤ rv r - cl (6 * (rv x - (m : Rat))) ∧ rv r - cl (6 * (rv x - (m : Rat))) ≤ 20 * ee := by
  have hbig := big_le
  have hE := ee_pos
  have hE2 := ee_le
  obtain ⟨h, ⟨z, s, hz, hsub, hmul⟩, ht⟩ := hr
  rcases hz with ⟨-, rfl⟩ | ⟨hn, -⟩
  · obtain ⟨-, ff, fv⟩ := floorw_spec fx (by grind) (by grind)
    have l1 : ((rv x).floor : Rat) ≤ rv x := Rat.le_floor_iff.1 (Int.le_refl _)
    have l2 : rv x < (((rv x).floor + 1 : Int) : Rat) := Rat.floor_lt_iff.1 (by omega)
    have l3 : (((rv x).floor + 1 : Int) : Rat) = ((rv x).floor : Rat) + 1 := by rw [Rat.intCast_add]; rfl
    rw [l3] at l2
    clear l3
    refine ⟨(rv x).floor, by grind, by grind, ?_⟩
    generalize ((rv x).floor : Rat) = m at *
    have R := res_sub hsub fx ff (by rw [fv]; grind) (by rw [fv]; grind)
    rw [fv] at R
    have s1 := near R 1 (by grind) (by grind) (by grind)
    have R2 := res_mul hmul R.fin f6 (by rw [v6]; grind) (by rw [v6]; grind)
    rw [v6] at R2
    have s2 := near R2 7 (by grind) (by grind) (by grind)
    have fh := R2.fin
    unfold TailR at ht
    rw [ltB_iff fh f1, ltB_iff fh f3, ltB_iff fh f4, v1, v3, v4] at ht
    split at ht
    · rename_i hc
      have hc : rv h < 1 := by simpa using hc
      obtain ⟨fr, vr⟩ := lerp01 ha hb va vb fh (by grind) (by grind) ht
      refine ⟨fr, ?_⟩
      rw [vr]
      unfold cl
      split <;> (try split) <;> (try split) <;> (try split) <;> constructor <;> grind
    · rename_i hc
      have hc : ¬ rv h < 1 := by simpa using hc
      split at ht
      · rename_i hc2
        have hc2 : rv h < 3 := by simpa using hc2
        subst ht
        refine ⟨hb, ?_⟩
        rw [vb]
        unfold cl
        split <;> (try split) <;> (try split) <;> (try split) <;> constructor <;> grind
      · rename_i hc2
        have hc2 : ¬ rv h < 3 := by simpa using hc2
        split at ht
        · rename_i hc3
          have hc3 : rv h < 4 := by simpa using hc3
          obtain ⟨q, hq, hl⟩ := ht
          have e : Op.negFloat .f64 h = h ^^^ 2 ^ 63 := rfl
          rw [e] at hq
          have R3 := res_add hq (neg_fin fh) f4 (by rw [neg_rv fh, v4]; grind) (by rw [neg_rv fh, v4]; grind)
          rw [neg_rv fh, v4] at R3
          have s3 := near R3 1 (by grind) (by grind) (by grind)
          obtain ⟨fr, vr⟩ := lerp01 ha hb va vb R3.fin (by grind) (by grind) hl
          refine ⟨fr, ?_⟩
          rw [vr]
          unfold cl
          split <;> (try split) <;> (try split) <;> (try split) <;> constructor <;> grind
        · rename_i hc3
          have hc3 : ¬ rv h < 4 := by simpa using hc3
          subst ht
          refine ⟨ha, ?_⟩
          rw [va]
          unfold cl
          split <;> (try split) <;> (try split) <;> (try split) <;> constructor <;> grind
  · exact absurd fx hn

theorem c13 : 1/3 - ee ≤ rv 4599676419421066581 ∧ rv 4599676419421066581 ≤ 1/3 + ee := by unfold ee; decide +kernel

/-- One channel of the pure hue: near the curve. -/
def Pure (H o : Rat) (r : Nat) : Prop := ∃ m : Int, -(1000 * ee) ≤ 6 * (H + o - (m : Rat)) ∧ 6 * (H + o - (m : Rat)) ≤ 6 + 1000 * ee ∧ FL.Fin r ∧
  -(1000 * ee) ≤ rv r - cl (6 * (H + o - (m : Rat))) ∧ rv r - cl (6 * (H + o - (m : Rat))) ≤ 1000 * ee
theorem pure_of {a b x r : Nat} {H o : Rat} (ha : FL.Fin a) (hb : FL.Fin b) (va : rv a = 0) (vb : rv b = 1) (fx : FL.Fin x) (h1 : -100 ≤ rv x) (h2 : rv x ≤ 100)
    (d1 : -(100 * ee) ≤ rv x - (H + o)) (d2 : rv x - (H + o) ≤ 100 * ee) (hr : HueR a b x r) : Pure H o r := by
  obtain ⟨m, y0, y1, fr, e1, e2⟩ := hueP ha hb va vb fx h1 h2 hr
  have hE := ee_pos
  have L := cl_lip (y := 6 * (rv x - (m : Rat))) (z := 6 * (H + o - (m : Rat))) (D := 600 * ee) (by grind) (by grind)
  exact ⟨m, by grind, by grind, fr, by grind, by grind⟩

theorem pure_hsl {h r g b : Nat} (fh : FL.Fin h) (h1 : -10000 ≤ rv h) (h2 : rv h ≤ 10000) (hr : HslR h 4607182418800017408 4602678819172646912 r g b) :
    Pure (rv h * (1/360)) (1/3) r ∧ Pure (rv h * (1/360)) 0 g ∧ Pure (rv h * (1/360)) (-1/3) b := by
  have hbig := big_le
  have hE := ee_pos
  have hE2 := ee_le
  obtain ⟨d, t, d2, u, hpp, hm, q1, q2, q3, q4, q5, q6, q7, q8, q9⟩ := hr
  have ed : rv h / rv 4645040803167600640 = rv h * (1 / 360) := by rw [v360]; grind
  have R1 := res_quo q1 fh f360 (by rw [v360]; decide) (by rw [ed]; grind) (by rw [ed]; grind)
  rw [ed] at R1
  have n1 := near R1 30 (by grind) (by grind) (by grind)
  have T : FL.Fin t ∧ rv t = 1 := by
    unfold T2R at q2
    rw [if_pos (show leB 4602678819172646912 4602678819172646912 = true by decide +kernel)] at q2
    obtain ⟨q, k1, k2⟩ := q2
    have S1 := res_add k1 f1 f1 (by rw [v1]; grind) (by rw [v1]; grind)
    have e1 := S1.exact f2 (by rw [v1, v2]; grind)
    have e1 : rv q = 2 := by rw [e1, v1]; grind
    have S2 := res_mul k2 S1.fin fhalf (by rw [e1, vhalf]; grind) (by rw [e1, vhalf]; grind)
    have e2 := S2.exact f1 (by rw [e1, vhalf, v1]; grind)
    exact ⟨S2.fin, by rw [e2, e1, vhalf]; grind⟩
  obtain ⟨ft, vt⟩ := T
  have R2 := res_mul q3 fhalf f2 (by rw [vhalf, v2]; grind) (by rw [vhalf, v2]; grind)
  have e2 := R2.exact f1 (by rw [vhalf, v2, v1]; grind)
  have e2 : rv d2 = 1 := by rw [e2, vhalf, v2]; grind
  have R3 := res_sub q4 R2.fin ft (by rw [e2, vt]; grind) (by rw [e2, vt]; grind)
  have e3 : rv u = 0 := R3.zero (by rw [e2, vt]; grind)
  obtain ⟨c1, c2⟩ := c13
  have R4 := res_add q5 R1.fin f13 (by grind) (by grind)
  have n4 := near R4 31 (by grind) (by grind) (by grind)
  have R5 := res_sub q8 R1.fin f13 (by grind) (by grind)
  have n5 := near R5 31 (by grind) (by grind) (by grind)
  refine ⟨pure_of R3.fin ft e3 vt R4.fin (by grind) (by grind) (by grind) (by grind) q6, pure_of R3.fin ft e3 vt R1.fin (by grind) (by grind) (by grind) (by grind) q7, pure_of R3.fin ft e3 vt R5.fin (by grind) (by grind) (by grind) (by grind) q9⟩
end Go.Proofs.Ytcaiehnihgcegaa.F64
