/- The plain part of the neutral axis law. -/
import Derived.Test.YtimjcecbkkhdfaaSmall
import Derived.Test.YtimjcecbkkhdfaaCubed
namespace Go.Proofs.Ytimjcecbkkhdfaa.F64
open Go.Proofs.Ytimjcecbkkhdfaa.FL

theorem f268231017195544690 : FL.Fin 268231017195544690 := by unfold FL.Fin; decide
theorem f4532020583610935537 : FL.Fin 4532020583610935537 := by unfold FL.Fin; decide
theorem f4596943170085636112 : FL.Fin 4596943170085636112 := by unfold FL.Fin; decide
theorem f4598740710432799927 : FL.Fin 4598740710432799927 := by unfold FL.Fin; decide
theorem f4600811406850492424 : FL.Fin 4600811406850492424 := by unfold FL.Fin; decide
theorem f4606736165463080392 : FL.Fin 4606736165463080392 := by unfold FL.Fin; decide
theorem f4607182418786060931 : FL.Fin 4607182418786060931 := by unfold FL.Fin; decide
theorem f4607182418840017303 : FL.Fin 4607182418840017303 := by unfold FL.Fin; decide
theorem f4607182419046240057 : FL.Fin 4607182419046240057 := by unfold FL.Fin; decide
theorem f4607583499253154051 : FL.Fin 4607583499253154051 := by unfold FL.Fin; decide
theorem f4607688113723048619 : FL.Fin 4607688113723048619 := by unfold FL.Fin; decide
theorem f4608204194913203121 : FL.Fin 4608204194913203121 := by unfold FL.Fin; decide
theorem f4609825689617722726 : FL.Fin 4609825689617722726 := by unfold FL.Fin; decide
theorem f6103021453049119613 : FL.Fin 6103021453049119613 := by unfold FL.Fin; decide
theorem f13809380441552494495 : FL.Fin 13809380441552494495 := by unfold FL.Fin; decide
theorem f13812637635721267220 : FL.Fin 13812637635721267220 := by unfold FL.Fin; decide
theorem f13813203784447463117 : FL.Fin 13813203784447463117 := by unfold FL.Fin; decide
theorem f13813539708526269059 : FL.Fin 13813539708526269059 := by unfold FL.Fin; decide
theorem f13814484472384155798 : FL.Fin 13814484472384155798 := by unfold FL.Fin; decide
theorem f13815642953869197506 : FL.Fin 13815642953869197506 := by unfold FL.Fin; decide
theorem f13824636605479633644 : FL.Fin 13824636605479633644 := by unfold FL.Fin; decide
theorem f13826571607221310104 : FL.Fin 13826571607221310104 := by unfold FL.Fin; decide
theorem f13831867189814501828 : FL.Fin 13831867189814501828 := by unfold FL.Fin; decide
theorem v4532020583610935537 : rv 4532020583610935537 = (5902958103587057 : Rat) / 590295810358705651712 := by decide +kernel
theorem v4598740710432799927 : rv 4598740710432799927 = (5069090514894007 : Rat) / 18014398509481984 := by decide +kernel
theorem v4606736165463080392 : rv 4606736165463080392 = (1070118239725497 : Rat) / 1125899906842624 := by decide +kernel
theorem v4607182418786060931 : rv 4607182418786060931 = (9007199240784515 : Rat) / 9007199254740992 := by decide +kernel
theorem v4607182418840017303 : rv 4607182418840017303 = (4503599667370391 : Rat) / 4503599627370496 := by decide +kernel
theorem v4607182419046240057 : rv 4607182419046240057 = (4503599873593145 : Rat) / 4503599627370496 := by decide +kernel
theorem v4607583499253154051 : rv 4607583499253154051 = (4904680080507139 : Rat) / 4503599627370496 := by decide +kernel
theorem v4607688113723048619 : rv 4607688113723048619 = (5009294550401707 : Rat) / 4503599627370496 := by decide +kernel
theorem v4608204194913203121 : rv 4608204194913203121 = (5525375740556209 : Rat) / 4503599627370496 := by decide +kernel
theorem v4609825689617722726 : rv 4609825689617722726 = (3573435222537907 : Rat) / 2251799813685248 := by decide +kernel
theorem v13809380441552494495 : rv 13809380441552494495 = (-5847583661924255 : Rat) / 144115188075855872 := by decide +kernel
theorem v13813203784447463117 : rv 13813203784447463117 = (-5167326929522381 : Rat) / 72057594037927936 := by decide +kernel
theorem v13813539708526269059 : rv 13813539708526269059 = (-5503251008328323 : Rat) / 72057594037927936 := by decide +kernel
theorem v13824636605479633644 : rv 13824636605479633644 = (-1898237176737979 : Rat) / 4503599627370496 := by decide +kernel
theorem v13826571607221310104 : rv 13826571607221310104 = (-628043852657235 : Rat) / 1125899906842624 := by decide +kernel
theorem v1e100 : rv 6103021453049119613 ≤ 2 * 10 ^ 100 := by decide +kernel
theorem v290 : 1 / (2 * (10 : Rat) ^ 290) ≤ rv 268231017195544690 ∧ rv 268231017195544690 ≤ 1 := by decide +kernel
theorem eta_tiny : eta * 10 ^ 320 ≤ 1 := by unfold eta p2; decide +kernel
theorem huge3 : 100 * (8 * (10 : Rat) ^ 300) + 1000 ≤ p2 1023 := by unfold p2; decide +kernel
/-- The first row: near t. -/
theorem pA {c a b l : Nat} {T : Rat} (hc : FL.Fin c) (ha : FL.Fin a) (hb : FL.Fin b) (hl : FL.Fin l) (t1 : -T ≤ rv l) (t2 : rv l ≤ T)
    (c1 : 1 - 6 / 100000000 ≤ rv c) (c2 : rv c ≤ 1 + 6 / 100000000) (hbig : 100 * T + 100 ≤ p2 1023) :
    rowOK c a b l 0 0 ∧ FL.Fin (row c a b l 0 0) ∧ -(T * (1 / 10000000) + 8 * eta) ≤ rv (row c a b l 0 0) - rv l ∧ rv (row c a b l 0 0) - rv l ≤ T * (1 / 10000000) + 8 * eta := by
  have hd := mul_abs (x := rv l) (d := rv c - 1) (X := T) (E := 6 / 100000000) t1 t2 (by grind) (by grind)
  have hz := rv_zero
  have hu := u53_eq
  have R := row_err (A := 2 * T) (B := 0) (C := 0) (T := 2 * T) hc ha hb hl fin_zero fin_zero (by grind) (by grind) (by rw [hz]; grind) (by rw [hz]; grind) (by rw [hz]; grind) (by rw [hz]; grind) (by grind) (by grind)
  obtain ⟨r1, r2, r3, r4⟩ := R
  rw [hz, hu] at r3 r4
  refine ⟨r1, r2, ?_, ?_⟩ <;> grind

theorem le_cube {T : Rat} (h : 0 ≤ T) : T ≤ T * T * T + 1 ∧ T * T ≤ T * T * T + 1 := by
  have h2 := Rat.mul_nonneg h h
  have h3 := Rat.mul_nonneg h2 h
  rcases Rat.le_total (a := T) (b := 1) with hl | hl
  · have := mul_abs (x := T) (d := T) (X := 1) (E := 1) (by grind) hl (by grind) hl
    constructor <;> grind
  · have a := Rat.mul_nonneg h (show 0 ≤ T - 1 by grind)
    have b := Rat.mul_nonneg h2 (show 0 ≤ T - 1 by grind)
    constructor <;> grind

theorem cubA {p : Nat} {t T : Rat} (hp : FL.Fin p) (t1 : -T ≤ t) (t2 : t ≤ T) (d1 : -(T * (1 / 10000000) + 8 * eta) ≤ rv p - t) (d2 : rv p - t ≤ T * (1 / 10000000) + 8 * eta)
    (hbig : 100 * (T * T * T) + 1000 ≤ p2 1023) :
    cubOK p ∧ FL.Fin (cub p) ∧ -(T * T * T * (7 / 10000000) + 1000 * eta) ≤ rv (cub p) - t * t * t ∧ rv (cub p) - t * t * t ≤ T * T * T * (7 / 10000000) + 1000 * eta := by
  have hT : 0 ≤ T := by grind
  obtain ⟨k1, k2⟩ := le_cube hT
  have he := eta_pos
  have hel := eta_le
  have hu := u53_eq
  have n2 := Rat.mul_nonneg hT hT
  have n3 := Rat.mul_nonneg n2 hT
  have nb := Rat.mul_nonneg hT (Rat.le_of_lt he)
  have ng := Rat.mul_nonneg n2 (Rat.le_of_lt he)
  have e2 := Rat.mul_nonneg (Rat.le_of_lt he) (show 0 ≤ 1 - eta by grind)
  have e20 := Rat.mul_nonneg (Rat.le_of_lt he) (Rat.le_of_lt he)
  have be := Rat.mul_nonneg nb (show 0 ≤ 1 - eta by grind)
  have kb := Rat.mul_nonneg (Rat.le_of_lt he) (show 0 ≤ T * T * T + 1 - T by grind)
  have kg := Rat.mul_nonneg (Rat.le_of_lt he) (show 0 ≤ T * T * T + 1 - T * T by grind)
  have kc := Rat.mul_nonneg n3 (show 0 ≤ 1 / 1000000000000000 - eta by grind)
  have tt := mul_abs t1 t2 t1 t2
  have td := mul_abs t1 t2 d1 d2
  have dd := mul_abs d1 d2 d1 d2
  have ppe : rv p * rv p = t * t + 2 * (t * (rv p - t)) + (rv p - t) * (rv p - t) := by grind
  obtain ⟨o1, r1, -, -⟩ := fo_mul hp hp (by grind) (by grind)
  have x1 := r1.err (T * T * (1 + 3 / 10000000) + 17 * (T * eta) + 64 * eta) (by grind) (by grind)
  rw [hu] at x1
  generalize hm : fo .mul p p = m at *
  have f1 : -(T * T * (3 / 10000000) + 18 * (T * eta) + 66 * eta) ≤ rv m - t * t := by grind
  have f2 : rv m - t * t ≤ T * T * (3 / 10000000) + 18 * (T * eta) + 66 * eta := by grind
  clear x1 ppe td dd
  have ttt := mul_abs tt.1 tt.2 t1 t2
  have ttd := mul_abs tt.1 tt.2 d1 d2
  have ft := mul_abs f1 f2 t1 t2
  have fd := mul_abs f1 f2 d1 d2
  have mpe : rv m * rv p = t * t * t + t * t * (rv p - t) + (rv m - t * t) * t + (rv m - t * t) * (rv p - t) := by grind
  have g1 : -(T * T * T * (5 / 10000000) + 30 * (T * T * eta) + 240 * (T * eta) + 600 * eta) ≤ rv m * rv p - t * t * t := by grind
  have g2 : rv m * rv p - t * t * t ≤ T * T * T * (5 / 10000000) + 30 * (T * T * eta) + 240 * (T * eta) + 600 * eta := by grind
  clear ttd ft fd mpe f1 f2
  have g3 : -(T * T * T * (6 / 10000000) + 900 * eta) ≤ rv m * rv p - t * t * t := by grind
  have g4 : rv m * rv p - t * t * t ≤ T * T * T * (6 / 10000000) + 900 * eta := by grind
  clear g1 g2
  obtain ⟨o2, r2, -, -⟩ := fo_mul r1.fin hp (by grind) (by grind)
  have x2 := r2.err (2 * (T * T * T) + 900 * eta) (by grind) (by grind)
  rw [hu] at x2
  have hc : cub p = fo .mul m p := by unfold cub; rw [hm]
  rw [hc]
  refine ⟨⟨?_, ?_⟩, r2.fin, ?_, ?_⟩
  · exact o1
  · rw [hm]; exact o2
  · grind
  · grind

/-- The tolerance. -/
def tolN (c : Nat) : Nat := fo .add (fo .mul 4532020583610935537 (absw c)) 268231017195544690
theorem tolA {c : Nat} {s C : Rat} (hc : FL.Fin c) (s1 : -C ≤ s) (s2 : s ≤ C) (hs : C = s ∨ C = -s) (c1 : -(C * (7 / 10000000) + 1000 * eta) ≤ rv c - s) (c2 : rv c - s ≤ C * (7 / 10000000) + 1000 * eta)
    (hbig : 100 * C + 1000 ≤ p2 1023) :
    ok .mul 4532020583610935537 (absw c) ∧ ok .add (fo .mul 4532020583610935537 (absw c)) 268231017195544690 ∧ FL.Fin (tolN c) ∧ C * (9 / 1000000) + 1000000 * eta ≤ rv (tolN c) := by
  have hu := u53_eq
  have he := eta_pos
  have hel := eta_le
  have het := eta_tiny
  obtain ⟨a0, a1, a2, a3⟩ := absw_rv hc
  have v1 := v4532020583610935537
  obtain ⟨v2, v3⟩ := v290
  have v4 : 2000000 * eta ≤ rv 268231017195544690 := by
    have : (1 / (2 * (10 : Rat) ^ 290)) * 10 ^ 320 = 10 ^ 30 / 2 := by decide +kernel
    have h3 : (0 : Rat) < 10 ^ 320 := by decide +kernel
    have h4 : (2000000 : Rat) ≤ 10 ^ 30 / 2 := by decide +kernel
    have : 2000000 * eta * 10 ^ 320 ≤ (1 / (2 * (10 : Rat) ^ 290)) * 10 ^ 320 := by rw [this]; grind
    exact Rat.le_trans (Rat.le_of_mul_le_mul_right this h3) v2
  clear v2 het
  obtain ⟨o1, r1, -, -⟩ := fo_mul f4532020583610935537 (absw_fin hc) (by rw [v1]; grind) (by rw [v1]; grind)
  have x1 := r1.err (C * (1 / 10000) + eta) (by rw [v1]; grind) (by rw [v1]; grind)
  rw [hu, v1] at x1
  unfold tolN
  generalize hm : fo .mul 4532020583610935537 (absw c) = m at *
  obtain ⟨o2, r2, -⟩ := fo_add r1.fin f268231017195544690 (by grind) (by grind)
  have x2 := r2.err (rv m + rv 268231017195544690) (by grind) (by grind)
  rw [hu] at x2
  refine ⟨o1, o2, r2.fin, ?_⟩
  grind

theorem rowB0 {r0 r1 r2 c : Nat} {s C : Rat} (h0 : FL.Fin r0) (h1 : FL.Fin r1) (h2 : FL.Fin r2) (hc : FL.Fin c) (s1 : -C ≤ s) (s2 : s ≤ C)
    (d0 : -(C * (7 / 10000000) + 1000 * eta) ≤ rv r0 - s ∧ rv r0 - s ≤ C * (7 / 10000000) + 1000 * eta)
    (d1 : -(C * (7 / 10000000) + 1000 * eta) ≤ rv r1 - s ∧ rv r1 - s ≤ C * (7 / 10000000) + 1000 * eta)
    (d2 : -(C * (7 / 10000000) + 1000 * eta) ≤ rv r2 - s ∧ rv r2 - s ≤ C * (7 / 10000000) + 1000 * eta)
    (d3 : -(C * (7 / 10000000) + 1000 * eta) ≤ rv c - s ∧ rv c - s ≤ C * (7 / 10000000) + 1000 * eta)
    (hbig : 100 * C + 1000 ≤ p2 1023) :
    rowOK 4608204194913203121 13826571607221310104 4598740710432799927 r0 r1 r2 ∧ ok .mul 4606736165463080392 c ∧ ok .sub (row 4608204194913203121 13826571607221310104 4598740710432799927 r0 r1 r2) (fo .mul 4606736165463080392 c) ∧ FL.Fin (fo .sub (row 4608204194913203121 13826571607221310104 4598740710432799927 r0 r1 r2) (fo .mul 4606736165463080392 c)) ∧
    rv (absw (fo .sub (row 4608204194913203121 13826571607221310104 4598740710432799927 r0 r1 r2) (fo .mul 4606736165463080392 c))) ≤ C * (9 / 1000000) + 1000000 * eta := by
  have hu := u53_eq
  have he := eta_pos
  have hel := eta_le
  have va := v4608204194913203121
  have vb := v13826571607221310104
  have vc := v4598740710432799927
  have R := row_err (A := (1227 / 1000) * (C * (1 + 7 / 10000000) + 1000 * eta)) (B := (558 / 1000) * (C * (1 + 7 / 10000000) + 1000 * eta)) (C := (282 / 1000) * (C * (1 + 7 / 10000000) + 1000 * eta)) (T := (2067 / 1000) * (C * (1 + 7 / 10000000) + 1000 * eta)) f4608204194913203121 f13826571607221310104 f4598740710432799927 h0 h1 h2 (by rw [va]; grind) (by rw [va]; grind) (by rw [vb]; grind) (by rw [vb]; grind) (by rw [vc]; grind) (by rw [vc]; grind) (by grind) (by grind)
  obtain ⟨x1, x2, x3, x4⟩ := R
  rw [hu, va, vb, vc] at x3 x4
  generalize row 4608204194913203121 13826571607221310104 4598740710432799927 r0 r1 r2 = q at *
  have vw := v4606736165463080392
  obtain ⟨o1, y1, -, -⟩ := fo_mul f4606736165463080392 hc (by rw [vw]; grind) (by rw [vw]; grind)
  have y2 := y1.err (2 * C + 2000 * eta) (by rw [vw]; grind) (by rw [vw]; grind)
  rw [hu, vw] at y2
  generalize fo .mul 4606736165463080392 c = g at *
  have hg := y1.fin
  have b1 : -(C * (8 / 1000000) + 20000 * eta) ≤ rv q - rv g := by grind
  have b2 : rv q - rv g ≤ C * (8 / 1000000) + 20000 * eta := by grind
  obtain ⟨o2, z1, -⟩ := fo_sub x2 hg (by grind) (by grind)
  have z2 := z1.err (C * (8 / 1000000) + 20000 * eta) b1 b2
  rw [hu] at z2
  have z3 := absw_rv z1.fin
  refine ⟨x1, o1, o2, z1.fin, ?_⟩
  grind

theorem rowB1 {r0 r1 r2 c : Nat} {s C : Rat} (h0 : FL.Fin r0) (h1 : FL.Fin r1) (h2 : FL.Fin r2) (hc : FL.Fin c) (s1 : -C ≤ s) (s2 : s ≤ C)
    (d0 : -(C * (7 / 10000000) + 1000 * eta) ≤ rv r0 - s ∧ rv r0 - s ≤ C * (7 / 10000000) + 1000 * eta)
    (d1 : -(C * (7 / 10000000) + 1000 * eta) ≤ rv r1 - s ∧ rv r1 - s ≤ C * (7 / 10000000) + 1000 * eta)
    (d2 : -(C * (7 / 10000000) + 1000 * eta) ≤ rv r2 - s ∧ rv r2 - s ≤ C * (7 / 10000000) + 1000 * eta)
    (d3 : -(C * (7 / 10000000) + 1000 * eta) ≤ rv c - s ∧ rv c - s ≤ C * (7 / 10000000) + 1000 * eta)
    (hbig : 100 * C + 1000 ≤ p2 1023) :
    rowOK 13809380441552494495 4607688113723048619 13813203784447463117 r0 r1 r2 ∧ ok .sub (row 13809380441552494495 4607688113723048619 13813203784447463117 r0 r1 r2) (c) ∧ FL.Fin (fo .sub (row 13809380441552494495 4607688113723048619 13813203784447463117 r0 r1 r2) (c)) ∧
    rv (absw (fo .sub (row 13809380441552494495 4607688113723048619 13813203784447463117 r0 r1 r2) (c))) ≤ C * (9 / 1000000) + 1000000 * eta := by
  have hu := u53_eq
  have he := eta_pos
  have hel := eta_le
  have va := v13809380441552494495
  have vb := v4607688113723048619
  have vc := v13813203784447463117
  have R := row_err (A := (41 / 1000) * (C * (1 + 7 / 10000000) + 1000 * eta)) (B := (1113 / 1000) * (C * (1 + 7 / 10000000) + 1000 * eta)) (C := (72 / 1000) * (C * (1 + 7 / 10000000) + 1000 * eta)) (T := (1226 / 1000) * (C * (1 + 7 / 10000000) + 1000 * eta)) f13809380441552494495 f4607688113723048619 f13813203784447463117 h0 h1 h2 (by rw [va]; grind) (by rw [va]; grind) (by rw [vb]; grind) (by rw [vb]; grind) (by rw [vc]; grind) (by rw [vc]; grind) (by grind) (by grind)
  obtain ⟨x1, x2, x3, x4⟩ := R
  rw [hu, va, vb, vc] at x3 x4
  generalize row 13809380441552494495 4607688113723048619 13813203784447463117 r0 r1 r2 = q at *
  have b1 : -(C * (8 / 1000000) + 20000 * eta) ≤ rv q - rv c := by grind
  have b2 : rv q - rv c ≤ C * (8 / 1000000) + 20000 * eta := by grind
  obtain ⟨o2, z1, -⟩ := fo_sub x2 hc (by grind) (by grind)
  have z2 := z1.err (C * (8 / 1000000) + 20000 * eta) b1 b2
  rw [hu] at z2
  have z3 := absw_rv z1.fin
  refine ⟨x1, o2, z1.fin, ?_⟩
  grind

theorem rowB2 {r0 r1 r2 c : Nat} {s C : Rat} (h0 : FL.Fin r0) (h1 : FL.Fin r1) (h2 : FL.Fin r2) (hc : FL.Fin c) (s1 : -C ≤ s) (s2 : s ≤ C)
    (d0 : -(C * (7 / 10000000) + 1000 * eta) ≤ rv r0 - s ∧ rv r0 - s ≤ C * (7 / 10000000) + 1000 * eta)
    (d1 : -(C * (7 / 10000000) + 1000 * eta) ≤ rv r1 - s ∧ rv r1 - s ≤ C * (7 / 10000000) + 1000 * eta)
    (d2 : -(C * (7 / 10000000) + 1000 * eta) ≤ rv r2 - s ∧ rv r2 - s ≤ C * (7 / 10000000) + 1000 * eta)
    (d3 : -(C * (7 / 10000000) + 1000 * eta) ≤ rv c - s ∧ rv c - s ≤ C * (7 / 10000000) + 1000 * eta)
    (hbig : 100 * C + 1000 ≤ p2 1023) :
    rowOK 13813539708526269059 13824636605479633644 4609825689617722726 r0 r1 r2 ∧ ok .mul 4607583499253154051 c ∧ ok .sub (row 13813539708526269059 13824636605479633644 4609825689617722726 r0 r1 r2) (fo .mul 4607583499253154051 c) ∧ FL.Fin (fo .sub (row 13813539708526269059 13824636605479633644 4609825689617722726 r0 r1 r2) (fo .mul 4607583499253154051 c)) ∧
    rv (absw (fo .sub (row 13813539708526269059 13824636605479633644 4609825689617722726 r0 r1 r2) (fo .mul 4607583499253154051 c))) ≤ C * (9 / 1000000) + 1000000 * eta := by
  have hu := u53_eq
  have he := eta_pos
  have hel := eta_le
  have va := v13813539708526269059
  have vb := v13824636605479633644
  have vc := v4609825689617722726
  have R := row_err (A := (77 / 1000) * (C * (1 + 7 / 10000000) + 1000 * eta)) (B := (422 / 1000) * (C * (1 + 7 / 10000000) + 1000 * eta)) (C := (1587 / 1000) * (C * (1 + 7 / 10000000) + 1000 * eta)) (T := (2086 / 1000) * (C * (1 + 7 / 10000000) + 1000 * eta)) f13813539708526269059 f13824636605479633644 f4609825689617722726 h0 h1 h2 (by rw [va]; grind) (by rw [va]; grind) (by rw [vb]; grind) (by rw [vb]; grind) (by rw [vc]; grind) (by rw [vc]; grind) (by grind) (by grind)
  obtain ⟨x1, x2, x3, x4⟩ := R
  rw [hu, va, vb, vc] at x3 x4
  generalize row 13813539708526269059 13824636605479633644 4609825689617722726 r0 r1 r2 = q at *
  have vw := v4607583499253154051
  obtain ⟨o1, y1, -, -⟩ := fo_mul f4607583499253154051 hc (by rw [vw]; grind) (by rw [vw]; grind)
  have y2 := y1.err (2 * C + 2000 * eta) (by rw [vw]; grind) (by rw [vw]; grind)
  rw [hu, vw] at y2
  generalize fo .mul 4607583499253154051 c = g at *
  have hg := y1.fin
  have b1 : -(C * (8 / 1000000) + 20000 * eta) ≤ rv q - rv g := by grind
  have b2 : rv q - rv g ≤ C * (8 / 1000000) + 20000 * eta := by grind
  obtain ⟨o2, z1, -⟩ := fo_sub x2 hg (by grind) (by grind)
  have z2 := z1.err (C * (8 / 1000000) + 20000 * eta) b1 b2
  rw [hu] at z2
  have z3 := absw_rv z1.fin
  refine ⟨x1, o1, o2, z1.fin, ?_⟩
  grind

end Go.Proofs.Ytimjcecbkkhdfaa.F64
