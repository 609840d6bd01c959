/- No saturation: every channel is the lightness. Plain Lean. -/
import Derived.Test.YtcaiehnihgcegaaHsl
namespace Go.Proofs.Ytcaiehnihgcegaa.F64
open Go.Proofs.Ytcaiehnihgcegaa.FL

theorem res_add {x y z : Nat} (h : Res .add x y z) (hx : FL.Fin x) (hy : FL.Fin y) (h1 : -p2 1023 ≤ rv x + rv y) (h2 : rv x + rv y ≤ p2 1023) : Rnd (rv x + rv y) z := by
  obtain ⟨z', e, hr, -⟩ := add_rnd hx hy h1 h2
  have e : floatBits .add .f64 x y = some z' := e
  rcases h with h | ⟨h, -⟩
  · rw [e] at h; injection h with h; rw [← h]; exact hr
  · rw [e] at h; cases h
theorem res_sub {x y z : Nat} (h : Res .sub x y z) (hx : FL.Fin x) (hy : FL.Fin y) (h1 : -p2 1023 ≤ rv x - rv y) (h2 : rv x - rv y ≤ p2 1023) : Rnd (rv x - rv y) z := by
  obtain ⟨z', e, hr, -⟩ := sub_rnd hx hy h1 h2
  have e : floatBits .sub .f64 x y = some z' := e
  rcases h with h | ⟨h, -⟩
  · rw [e] at h; injection h with h; rw [← h]; exact hr
  · rw [e] at h; cases h
theorem res_mul {x y z : Nat} (h : Res .mul x y z) (hx : FL.Fin x) (hy : FL.Fin y) (h1 : -p2 1023 ≤ rv x * rv y) (h2 : rv x * rv y ≤ p2 1023) : Rnd (rv x * rv y) z := by
  obtain ⟨z', e, hr, -⟩ := mul_rnd hx hy h1 h2
  have e : floatBits .mul .f64 x y = some z' := e
  rcases h with h | ⟨h, -⟩
  · rw [e] at h; injection h with h; rw [← h]; exact hr
  · rw [e] at h; cases h
theorem res_quo {x y z : Nat} (h : Res .quo x y z) (hx : FL.Fin x) (hy : FL.Fin y) (h0 : rv y ≠ 0) (h1 : -p2 1023 ≤ rv x / rv y) (h2 : rv x / rv y ≤ p2 1023) : Rnd (rv x / rv y) z := by
  obtain ⟨z', e, hr, -⟩ := div_rnd hx hy h0 h1 h2
  have e : floatBits .quo .f64 x y = some z' := e
  rcases h with h | ⟨h, -⟩
  · rw [e] at h; injection h with h; rw [← h]; exact hr
  · rw [e] at h; cases h

theorem nan_not {z : Nat} (h : IsNaN z) : ¬ FL.Fin z := by unfold IsNaN at h; unfold FL.Fin; omega
theorem inf_not (b : Bool) : ¬ FL.Fin (Ieee.double.word b (2047 * 2 ^ 52)) := by unfold FL.Fin; rw [word_mod b _ (by decide)]; omega
/-- What is not finite stays so. -/
theorem res_not {op : BinOp} (hop : op = .add ∨ op = .sub ∨ op = .quo) {x y z : Nat} (hx : ¬ FL.Fin x) (hy : FL.Fin y) (h : Res op x y z) : ¬ FL.Fin z := by
  obtain ⟨n, j, ey⟩ := read_fin hy
  by_cases hi : x % 2 ^ 63 = 2047 * 2 ^ 52
  · have ex := read_inf hi
    have : ∃ b, floatBits op .f64 x y = some (Ieee.double.word b (2047 * 2 ^ 52)) := by
      rcases hop with rfl | rfl | rfl
      · exact ⟨(x / 2 ^ 63 % 2 == 1), by show Ieee.double.add x y = _; unfold Ieee.Format.add; rw [ex, ey]; rfl⟩
      · exact ⟨(x / 2 ^ 63 % 2 == 1), by show Ieee.double.sub x y = _; unfold Ieee.Format.sub; rw [ex, ey]; rfl⟩
      · exact ⟨(x / 2 ^ 63 % 2 == 1) ^^ (y / 2 ^ 63 % 2 == 1), by show Ieee.double.div x y = _; unfold Ieee.Format.div; rw [ex, ey]; rfl⟩
    obtain ⟨b, e⟩ := this
    rcases h with h | ⟨h, -⟩
    · rw [e] at h; injection h with h; rw [← h]; exact inf_not b
    · rw [e] at h; cases h
  · have hn : IsNaN x := by unfold FL.Fin at hx; unfold IsNaN; omega
    have ex := read_nan hn
    have e : floatBits op .f64 x y = none := by
      rcases hop with rfl | rfl | rfl
      · show Ieee.double.add x y = _; unfold Ieee.Format.add; rw [ex, ey]; rfl
      · show Ieee.double.sub x y = _; unfold Ieee.Format.sub; rw [ex, ey]; rfl
      · show Ieee.double.div x y = _; unfold Ieee.Format.div; rw [ex, ey]; rfl
    rcases h with h | ⟨-, h⟩
    · rw [e] at h; cases h
    · exact nan_not h
theorem mul_nan {x y z : Nat} (hx : IsNaN x) (hy : FL.Fin y) (h : Res .mul x y z) : IsNaN z := by
  obtain ⟨n, j, ey⟩ := read_fin hy
  have ex := read_nan hx
  have e : floatBits .mul .f64 x y = none := by show Ieee.double.mul x y = _; unfold Ieee.Format.mul; rw [ex, ey]; rfl
  rcases h with h | ⟨-, h⟩
  · rw [e] at h; cases h
  · exact h

theorem fin_bound {x : Nat} (h : FL.Fin x) : -(2 * p2 1023) ≤ rv x ∧ rv x ≤ 2 * p2 1023 := by
  have hf := h
  unfold FL.Fin at hf
  obtain ⟨E, K, hK, hE, hw, hv⟩ := fin_form h
  have hEb : E ≤ 2045 := by omega
  have e1 : p2 ((E : Int) - 1074) ≤ p2 971 := p2_le (by omega)
  have e2 : ((2 ^ 53 : Nat) : Rat) * p2 971 = 2 * p2 1023 := by
    rw [← p2_nat, ← p2_add, show ((53 : Nat) : Int) + 971 = 1 + 1023 by decide, p2_add, p2_one]
  have k0 : (0 : Rat) ≤ K := natCast_nn K
  have k1 : (K : Rat) ≤ ((2 ^ 53 : Nat) : Rat) := by exact_mod_cast Nat.le_of_lt hK
  have pp := p2_pos ((E : Int) - 1074)
  have := mul_abs (x := (K : Rat)) (d := p2 ((E : Int) - 1074)) (X := ((2 ^ 53 : Nat) : Rat)) (E := p2 971) (by grind) k1 (by grind) e1
  have n := mulp_nn K ((E : Int) - 1074)
  rw [e2] at this
  rw [hv]
  rcases sg_pm (x / 2 ^ 63 % 2 == 1) with e | e <;> rw [e] <;> grind

theorem f6 : FL.Fin 4618441417868443648 := by unfold FL.Fin; decide
theorem v6 : rv 4618441417868443648 = 6 := by decide +kernel
theorem f4 : FL.Fin 4616189618054758400 := by unfold FL.Fin; decide
theorem v4 : rv 4616189618054758400 = 4 := by decide +kernel
theorem f1 : FL.Fin 4607182418800017408 := by unfold FL.Fin; decide
theorem v1 : rv 4607182418800017408 = 1 := by decide +kernel
theorem f2 : FL.Fin 4611686018427387904 := by unfold FL.Fin; decide
theorem v2 : rv 4611686018427387904 = 2 := by decide +kernel
theorem f360 : FL.Fin 4645040803167600640 := by unfold FL.Fin; decide
theorem v360 : rv 4645040803167600640 = 360 := by decide +kernel
theorem f13 : FL.Fin 4599676419421066581 := by unfold FL.Fin; decide
theorem v13 : 0 ≤ rv 4599676419421066581 ∧ rv 4599676419421066581 ≤ 1 := by decide +kernel
theorem fin_zero : FL.Fin 0 := by unfold FL.Fin; omega
theorem rv_zero : rv 0 = 0 := rv_word_zero false

theorem ltB_nan {h y : Nat} (hn : IsNaN h) : ltB h y = false := by unfold ltB; rw [show FloatKind.f64.format.order h y = none from nan_order hn]; rfl

/-- The hue times six: a number from 0 to 6, or a NaN. -/
theorem six {x h : Nat} (hb : FL.Fin x → -p2 1023 ≤ rv x ∧ rv x ≤ p2 1023) (hs : SixR x h) : (FL.Fin h ∧ 0 ≤ rv h ∧ rv h ≤ 6) ∨ IsNaN h := by
  obtain ⟨z, s, hz, hsub, hmul⟩ := hs
  have hbig := big_le
  rcases hz with ⟨hx, rfl⟩ | ⟨hx, e⟩
  · left
    obtain ⟨b1, b2⟩ := hb hx
    obtain ⟨-, ff, fv⟩ := floorw_spec hx b1 b2
    have l1 : ((rv x).floor : Rat) ≤ rv x := Rat.le_floor_iff.1 (Int.le_refl _)
    have l2 : rv x < (((rv x).floor + 1 : Int) : Rat) := Rat.floor_lt_iff.1 (by omega)
    have l3 : (((rv x).floor + 1 : Int) : Rat) = ((rv x).floor : Rat) + 1 := by rw [Rat.intCast_add]; rfl
    rw [l3] at l2
    clear l3
    have R := res_sub hsub hx ff (by rw [fv]; grind) (by rw [fv]; grind)
    rw [fv] at R
    have s1 := R.above 0 fin_zero (by rw [rv_zero]; grind)
    have s2 := R.below _ f1 (by rw [v1]; grind)
    rw [rv_zero] at s1
    rw [v1] at s2
    have R2 := res_mul hmul R.fin f6 (by rw [v6]; grind) (by rw [v6]; grind)
    rw [v6] at R2
    have h1 := R2.above 0 fin_zero (by rw [rv_zero]; grind)
    have h2 := R2.below _ f6 (by rw [v6]; grind)
    rw [rv_zero] at h1
    rw [v6] at h2
    exact ⟨R2.fin, h1, h2⟩
  · right
    rcases hsub with h | ⟨-, h⟩
    · rw [e] at h; cases h
    · exact mul_nan h f6 hmul

theorem lerp_eq {a b h r : Nat} {v : Rat} (ha : FL.Fin a) (hb : FL.Fin b) (va : rv a = v) (vb : rv b = v) (b1 : -p2 1023 ≤ v) (b2 : v ≤ p2 1023) (hh : FL.Fin h) (hl : LerpR a b h r) : FL.Fin r ∧ rv r = v := by
  have hbig := big_le
  obtain ⟨d, p, h1, h2, h3⟩ := hl
  have R1 := res_sub h1 hb ha (by grind) (by grind)
  have z1 := R1.zero (by grind)
  have R2 := res_mul h2 R1.fin hh (by rw [z1]; grind) (by rw [z1]; grind)
  have z2 := R2.zero (by rw [z1]; grind)
  have R3 := res_add h3 R2.fin ha (by rw [z2]; grind) (by rw [z2]; grind)
  exact ⟨R3.fin, by rw [R3.exact ha (by rw [z2]; grind), z2]; grind⟩

theorem hue_eq {a b x r : Nat} {v : Rat} (ha : FL.Fin a) (hb : FL.Fin b) (va : rv a = v) (vb : rv b = v) (b1 : -p2 1023 ≤ v) (b2 : v ≤ p2 1023)
    (hx : FL.Fin x → -p2 1023 ≤ rv x ∧ rv x ≤ p2 1023) (hr : HueR a b x r) : FL.Fin r ∧ rv r = v := by
  have hbig := big_le
  obtain ⟨h, h6, ht⟩ := hr
  unfold TailR at ht
  rcases six hx h6 with ⟨fh, h0, h1⟩ | hn
  · split at ht
    · exact lerp_eq ha hb va vb b1 b2 fh ht
    · split at ht
      · subst ht; exact ⟨hb, vb⟩
      · split at ht
        · obtain ⟨q, hq, hl⟩ := ht
          have e : Op.negFloat .f64 h = h ^^^ 2 ^ 63 := rfl
          rw [e] at hq
          have R := res_add hq (neg_fin fh) f4 (by rw [neg_rv fh, v4]; grind) (by rw [neg_rv fh, v4]; grind)
          exact lerp_eq ha hb va vb b1 b2 R.fin hl
        · subst ht; exact ⟨ha, va⟩
  · rw [ltB_nan hn, ltB_nan hn, ltB_nan hn] at ht
    simp at ht
    subst ht; exact ⟨ha, va⟩

theorem t2_eq {l t : Nat} (hl : FL.Fin l) (b1 : -p2 1023 ≤ rv l) (b2 : rv l ≤ p2 1023) (h : T2R 0 l t) : FL.Fin t ∧ rv t = rv l := by
  have hbig := big_le
  have z := rv_zero
  unfold T2R at h
  split at h
  · obtain ⟨q, h1, h2⟩ := h
    have R1 := res_add h1 fin_zero f1 (by rw [z, v1]; grind) (by rw [z, v1]; grind)
    have e1 := R1.exact f1 (by rw [z]; grind)
    rw [z, v1] at e1
    have e1 : rv q = 1 := by rw [e1]; grind
    have R2 := res_mul h2 R1.fin hl (by rw [e1]; grind) (by rw [e1]; grind)
    exact ⟨R2.fin, by rw [R2.exact hl (by rw [e1]; grind), e1]; grind⟩
  · obtain ⟨a, m, h1, h2, h3⟩ := h
    have R1 := res_add h1 hl fin_zero (by rw [z]; grind) (by rw [z]; grind)
    have e1 := R1.exact hl (by rw [z]; grind)
    rw [z] at e1
    have R2 := res_mul h2 hl fin_zero (by rw [z]; grind) (by rw [z]; grind)
    have e2 := R2.zero (by rw [z]; grind)
    have R3 := res_sub h3 R1.fin R2.fin (by rw [e1, e2]; grind) (by rw [e1, e2]; grind)
    exact ⟨R3.fin, by rw [R3.exact hl (by rw [e1, e2]; grind), e1, e2]; grind⟩

theorem gray {h l r g b : Nat} (hl : FL.Fin l) (b1 : -p2 1022 ≤ rv l) (b2 : rv l ≤ p2 1022) (hr : HslR h 0 l r g b) :
    (FL.Fin r ∧ rv r = rv l) ∧ (FL.Fin g ∧ rv g = rv l) ∧ (FL.Fin b ∧ rv b = rv l) := by
  have hbig := big_le
  have hp := p2_1023
  have pp := p2_pos 1022
  obtain ⟨d, t, d2, u, hpp, hm, q1, q2, q3, q4, q5, q6, q7, q8, q9⟩ := hr
  obtain ⟨ft, vt⟩ := t2_eq hl (by grind) (by grind) q2
  have R1 := res_mul q3 hl f2 (by rw [v2]; grind) (by rw [v2]; grind)
  obtain ⟨w2, fw, vw⟩ := rep_two hl b1 b2
  have e1 := R1.exact fw (by rw [vw, v2]; grind)
  rw [v2] at e1
  have R2 := res_sub q4 R1.fin ft (by rw [e1, vt]; grind) (by rw [e1, vt]; grind)
  have e2 := R2.exact hl (by rw [e1, vt]; grind)
  have e2 : rv u = rv l := by rw [e2, e1, vt]; grind
  have hu := u53_eq
  have he := eta_le
  have bd : FL.Fin d → -(p2 1022) ≤ rv d ∧ rv d ≤ p2 1022 := by
    intro fd
    have fh : FL.Fin h := Classical.byContradiction fun hn => res_not (by simp) hn f360 q1 fd
    obtain ⟨c1, c2⟩ := fin_bound fh
    have ed : rv h / rv 4645040803167600640 = rv h * (1 / 360) := by rw [v360]; grind
    have R := res_quo q1 fh f360 (by rw [v360]; decide) (by rw [ed]; grind) (by rw [ed]; grind)
    have x := R.err (p2 1023 * (1 / 100)) (by rw [ed]; grind) (by rw [ed]; grind)
    rw [hu, ed] at x
    constructor <;> grind
  obtain ⟨o1, o2⟩ := v13
  have bp : FL.Fin hpp → -p2 1023 ≤ rv hpp ∧ rv hpp ≤ p2 1023 := by
    intro f
    have fd : FL.Fin d := Classical.byContradiction fun hn => res_not (by simp) hn f13 q5 f
    obtain ⟨c1, c2⟩ := bd fd
    have R := res_add q5 fd f13 (by grind) (by grind)
    have x := R.err (p2 1022 + 1) (by grind) (by grind)
    rw [hu] at x
    constructor <;> grind
  have bm : FL.Fin hm → -p2 1023 ≤ rv hm ∧ rv hm ≤ p2 1023 := by
    intro f
    have fd : FL.Fin d := Classical.byContradiction fun hn => res_not (by simp) hn f13 q8 f
    obtain ⟨c1, c2⟩ := bd fd
    have R := res_sub q8 fd f13 (by grind) (by grind)
    have x := R.err (p2 1022 + 1) (by grind) (by grind)
    rw [hu] at x
    constructor <;> grind
  have b3 : -p2 1023 ≤ rv l := by grind
  have b4 : rv l ≤ p2 1023 := by grind
  exact ⟨hue_eq R2.fin ft e2 vt b3 b4 bp q6, hue_eq R2.fin ft e2 vt b3 b4 (fun f => by have := bd f; grind) q7, hue_eq R2.fin ft e2 vt b3 b4 bm q9⟩
end Go.Proofs.Ytcaiehnihgcegaa.F64
