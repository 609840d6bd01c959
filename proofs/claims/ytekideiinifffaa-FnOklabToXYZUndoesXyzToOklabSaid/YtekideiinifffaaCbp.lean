/- The way XYZ -> OKLab -> XYZ: the rows and what they are worth. Plain Lean. Written by gen_cbp.py. -/
import Derived.Test.YtekideiinifffaaRow
import Derived.Test.YtekideiinifffaaOkl
import Derived.Test.YtekideiinifffaaOki
namespace Go.Proofs.Ytekideiinifffaa.F64
open Go.RowKit Go.Proofs.Ytekideiinifffaa.FL
set_option linter.unusedVariables false
theorem f4583123551765604832 : FL.Fin 4583123551765604832 := by unfold FL.Fin; decide
theorem v4583123551765604832 : rv 4583123551765604832 = (233322823661903 : Rat) / 9007199254740992 := by decide +kernel
theorem f4584914268437469546 : FL.Fin 4584914268437469546 := by unfold FL.Fin; decide
theorem v4584914268437469546 : rv 4584914268437469546 = (2376723700837557 : Rat) / 72057594037927936 := by decide +kernel
theorem f4585369816687053158 : FL.Fin 4585369816687053158 := by unfold FL.Fin; decide
theorem v4585369816687053158 : rv 4585369816687053158 = (2604497825629363 : Rat) / 72057594037927936 := by decide +kernel
theorem f4587103887212223230 : FL.Fin 4587103887212223230 := by unfold FL.Fin; decide
theorem v4587103887212223230 : rv 4587103887212223230 = (3471533088214399 : Rat) / 72057594037927936 := by decide +kernel
theorem f4596750433936516346 : FL.Fin 4596750433936516346 := by unfold FL.Fin; decide
theorem v4596750433936516346 : rv 4596750433936516346 = (3791206822990461 : Rat) / 18014398509481984 := by decide +kernel
theorem f4596943170085636112 : FL.Fin 4596943170085636112 := by unfold FL.Fin; decide
theorem v4596943170085636112 : rv 4596943170085636112 = (485946862193793 : Rat) / 2251799813685248 := by decide +kernel
theorem f4598431736022207442 : FL.Fin 4598431736022207442 := by unfold FL.Fin; decide
theorem v4598431736022207442 : rv 4598431736022207442 = (2380058052150761 : Rat) / 9007199254740992 := by decide +kernel
theorem f4598740710432799927 : FL.Fin 4598740710432799927 := by unfold FL.Fin; decide
theorem v4598740710432799927 : rv 4598740710432799927 = (5069090514894007 : Rat) / 18014398509481984 := by decide +kernel
theorem f4600191143441610756 : FL.Fin 4600191143441610756 := by unfold FL.Fin; decide
theorem v4600191143441610756 : rv 4600191143441610756 = (1629880880926209 : Rat) / 4503599627370496 := by decide +kernel
theorem f4600811406850492424 : FL.Fin 4600811406850492424 := by unfold FL.Fin; decide
theorem v4600811406850492424 : rv 4600811406850492424 = (892473366573313 : Rat) / 2251799813685248 := by decide +kernel
theorem f4601788794573910437 : FL.Fin 4601788794573910437 := by unfold FL.Fin; decide
theorem v4601788794573910437 : rv 4601788794573910437 = (8117174656004517 : Rat) / 18014398509481984 := by decide +kernel
theorem f4603881711049788294 : FL.Fin 4603881711049788294 := by unfold FL.Fin; decide
theorem v4603881711049788294 : rv 4603881711049788294 = (2853245752255939 : Rat) / 4503599627370496 := by decide +kernel
theorem f4605225800814425346 : FL.Fin 4605225800814425346 := by unfold FL.Fin; decide
theorem v4605225800814425346 : rv 4605225800814425346 = (3525290634574465 : Rat) / 4503599627370496 := by decide +kernel
theorem f4605323493066877613 : FL.Fin 4605323493066877613 := by unfold FL.Fin; decide
theorem v4605323493066877613 : rv 4605323493066877613 = (7148273521601197 : Rat) / 9007199254740992 := by decide +kernel
theorem f4605552317885431608 : FL.Fin 4605552317885431608 := by unfold FL.Fin; decide
theorem v4605552317885431608 : rv 4605552317885431608 = (922137292519399 : Rat) / 1125899906842624 := by decide +kernel
theorem f4606545491340083669 : FL.Fin 4606545491340083669 := by unfold FL.Fin; decide
theorem v4606545491340083669 : rv 4606545491340083669 = (8370271794807253 : Rat) / 9007199254740992 := by decide +kernel
theorem f4607182418786060931 : FL.Fin 4607182418786060931 := by unfold FL.Fin; decide
theorem v4607182418786060931 : rv 4607182418786060931 = (9007199240784515 : Rat) / 9007199254740992 := by decide +kernel
theorem f4607182418840017303 : FL.Fin 4607182418840017303 := by unfold FL.Fin; decide
theorem v4607182418840017303 : rv 4607182418840017303 = (4503599667370391 : Rat) / 4503599627370496 := by decide +kernel
theorem f4607182419046240057 : FL.Fin 4607182419046240057 := by unfold FL.Fin; decide
theorem v4607182419046240057 : rv 4607182419046240057 = (4503599873593145 : Rat) / 4503599627370496 := by decide +kernel
theorem f4607688113723048619 : FL.Fin 4607688113723048619 := by unfold FL.Fin; decide
theorem v4607688113723048619 : rv 4607688113723048619 = (5009294550401707 : Rat) / 4503599627370496 := by decide +kernel
theorem f4608204194913203121 : FL.Fin 4608204194913203121 := by unfold FL.Fin; decide
theorem v4608204194913203121 : rv 4608204194913203121 = (5525375740556209 : Rat) / 4503599627370496 := by decide +kernel
theorem f4609825689617722726 : FL.Fin 4609825689617722726 := by unfold FL.Fin; decide
theorem v4609825689617722726 : rv 4609825689617722726 = (3573435222537907 : Rat) / 2251799813685248 := by decide +kernel
theorem f4611586932458118674 : FL.Fin 4611586932458118674 := by unfold FL.Fin; decide
theorem v4611586932458118674 : rv 4611586932458118674 = (4454056642735881 : Rat) / 2251799813685248 := by decide +kernel
theorem f13794716809331944248 : FL.Fin 13794716809331944248 := by unfold FL.Fin; decide
theorem v13794716809331944248 : rv 13794716809331944248 = (-586843790435687 : Rat) / 144115188075855872 := by decide +kernel
theorem f13809380441552494495 : FL.Fin 13809380441552494495 := by unfold FL.Fin; decide
theorem v13809380441552494495 : rv 13809380441552494495 = (-5847583661924255 : Rat) / 144115188075855872 := by decide +kernel
theorem f13812637635721267220 : FL.Fin 13812637635721267220 := by unfold FL.Fin; decide
theorem v13812637635721267220 : rv 13812637635721267220 = (-1150294550831621 : Rat) / 18014398509481984 := by decide +kernel
theorem f13813203784447463117 : FL.Fin 13813203784447463117 := by unfold FL.Fin; decide
theorem v13813203784447463117 : rv 13813203784447463117 = (-5167326929522381 : Rat) / 72057594037927936 := by decide +kernel
theorem f13813539708526269059 : FL.Fin 13813539708526269059 := by unfold FL.Fin; decide
theorem v13813539708526269059 : rv 13813539708526269059 = (-5503251008328323 : Rat) / 72057594037927936 := by decide +kernel
theorem f13814484472384155798 : FL.Fin 13814484472384155798 := by unfold FL.Fin; decide
theorem v13814484472384155798 : rv 13814484472384155798 = (-3224007433107531 : Rat) / 36028797018963968 := by decide +kernel
theorem f13815642953869197506 : FL.Fin 13815642953869197506 := by unfold FL.Fin; decide
theorem v13815642953869197506 : rv 13815642953869197506 = (-3803248175628385 : Rat) / 36028797018963968 := by decide +kernel
theorem f13817183224500110982 : FL.Fin 13817183224500110982 := by unfold FL.Fin; decide
theorem v13817183224500110982 : rv 13817183224500110982 = (-2321583677399875 : Rat) / 18014398509481984 := by decide +kernel
theorem f13824636605479633644 : FL.Fin 13824636605479633644 := by unfold FL.Fin; decide
theorem v13824636605479633644 : rv 13824636605479633644 = (-1898237176737979 : Rat) / 4503599627370496 := by decide +kernel
theorem f13826571607221310104 : FL.Fin 13826571607221310104 := by unfold FL.Fin; decide
theorem v13826571607221310104 : rv 13826571607221310104 = (-628043852657235 : Rat) / 1125899906842624 := by decide +kernel
theorem f13828831160156894525 : FL.Fin 13828831160156894525 := by unfold FL.Fin; decide
theorem v13828831160156894525 : rv 13828831160156894525 = (-7283903756842301 : Rat) / 9007199254740992 := by decide +kernel
theorem f13831867189814501828 : FL.Fin 13831867189814501828 := by unfold FL.Fin; decide
theorem v13831867189814501828 : rv 13831867189814501828 = (-1454083446769777 : Rat) / 1125899906842624 := by decide +kernel
theorem f13836023159129529662 : FL.Fin 13836023159129529662 := by unfold FL.Fin; decide
theorem v13836023159129529662 : rv 13836023159129529662 = (-2734351737368223 : Rat) / 1125899906842624 := by decide +kernel
theorem mul_bd {x a X α : Rat} (x1 : -X ≤ x) (x2 : x ≤ X) (a1 : -α ≤ a) (a2 : a ≤ α) : -(X * α) ≤ x * a ∧ x * a ≤ X * α := mul_abs x1 x2 a1 a2
theorem rowG {a b c x y z : Nat} {X S α β γ : Rat} (ha : FL.Fin a) (hb : FL.Fin b) (hc : FL.Fin c) (hx : FL.Fin x) (hy : FL.Fin y) (hz : FL.Fin z)
    (x1 : -X ≤ rv x) (x2 : rv x ≤ X) (y1 : -X ≤ rv y) (y2 : rv y ≤ X) (z1 : -X ≤ rv z) (z2 : rv z ≤ X)
    (a1 : -α ≤ rv a) (a2 : rv a ≤ α) (b1 : -β ≤ rv b) (b2 : rv b ≤ β) (c1 : -γ ≤ rv c) (c2 : rv c ≤ γ) (hS : α + β + γ ≤ S) (hS2 : S ≤ 10) (hX : X ≤ 1000000) :
    rowOK a b c x y z ∧ FL.Fin (row a b c x y z) ∧ ∃ e, rv (row a b c x y z) = rv a * rv x + rv b * rv y + rv c * rv z + e ∧ -(S * X * (1 / 1000000000000000) + 8 * eta) ≤ e ∧ e ≤ S * X * (1 / 1000000000000000) + 8 * eta := by
  have X0 : 0 ≤ X := by grind
  have t1 := mul_bd x1 x2 a1 a2
  have t2 := mul_bd y1 y2 b1 b2
  have t3 := mul_bd z1 z2 c1 c2
  have s1 := Rat.mul_nonneg X0 (show 0 ≤ S - (α + β + γ) by grind)
  have s2 := Rat.mul_nonneg X0 (show 0 ≤ 10 - S by grind)
  have big := big_le
  obtain ⟨r1, r2, r3, r4⟩ := row_err (A := X * α) (B := X * β) (C := X * γ) (T := S * X) ha hb hc hx hy hz t1.1 t1.2 t2.1 t2.2 t3.1 t3.2 (by grind) (by grind)
  rw [u53_eq] at r3 r4
  have s0 : 0 ≤ S * X := by grind
  refine ⟨r1, r2, rv (row a b c x y z) - (rv a * rv x + rv b * rv y + rv c * rv z), by grind, ?_, ?_⟩ <;> grind
theorem cubB {p : Nat} {t T : Rat} (hp : FL.Fin p) (t1 : -T ≤ t) (t2 : t ≤ T) (d1 : -(T * (1 / 10000000000000) + 200 * eta) ≤ rv p - t) (d2 : rv p - t ≤ T * (1 / 10000000000000) + 200 * eta)
    (hT2 : T ≤ 1000) :
    cubOK p ∧ FL.Fin (cub p) ∧ -(T * T * T * (5 / 10000000000000) + 10000000000 * eta) ≤ rv (cub p) - t * t * t ∧ rv (cub p) - t * t * t ≤ T * T * T * (5 / 10000000000000) + 10000000000 * eta := by
  have hT : 0 ≤ T := by grind
  have he := eta_pos
  have hel := eta_le
  have hu := u53_eq
  have big := big_le
  have n2 := Rat.mul_nonneg hT hT
  have n3 := Rat.mul_nonneg n2 hT
  have b2 := Rat.mul_nonneg hT (show 0 ≤ 1000 - T by grind)
  have b3 := Rat.mul_nonneg n2 (show 0 ≤ 1000 - T by grind)
  have nb := Rat.mul_nonneg hT (Rat.le_of_lt he)
  have kb := Rat.mul_nonneg (Rat.le_of_lt he) (show 0 ≤ 1000 - T by grind)
  have ng := Rat.mul_nonneg n2 (Rat.le_of_lt he)
  have kg := Rat.mul_nonneg (Rat.le_of_lt he) (show 0 ≤ 1000000 - T * T by grind)
  have e2 := Rat.mul_nonneg (Rat.le_of_lt he) (show 0 ≤ 1 / 1000000000000000000000000 - eta by grind)
  have e20 := Rat.mul_nonneg (Rat.le_of_lt he) (Rat.le_of_lt he)
  have be := Rat.mul_nonneg nb (show 0 ≤ 1 / 1000000000000000000000000 - eta by grind)
  have tt := mul_abs t1 t2 t1 t2
  have td := mul_abs t1 t2 d1 d2
  have dd := mul_abs d1 d2 d1 d2
  have ppe : rv p * rv p = t * t + 2 * (t * (rv p - t)) + (rv p - t) * (rv p - t) := by grind
  have pp1 : -(T * T * (21 / 100000000000000) + 500000 * eta) ≤ rv p * rv p - t * t := by grind
  have pp2 : rv p * rv p - t * t ≤ T * T * (21 / 100000000000000) + 500000 * eta := by grind
  clear ppe td dd
  obtain ⟨o1, r1, -, -⟩ := fo_mul hp hp (by grind) (by grind)
  have x1 := r1.err (T * T * 2 + 500000 * eta) (by grind) (by grind)
  rw [hu] at x1
  generalize hm : fo .mul p p = m at *
  have f1 : -(T * T * (22 / 100000000000000) + 600000 * eta) ≤ rv m - t * t := by grind
  have f2 : rv m - t * t ≤ T * T * (22 / 100000000000000) + 600000 * eta := by grind
  clear x1
  have ttd := mul_abs tt.1 tt.2 d1 d2
  have ft := mul_abs f1 f2 t1 t2
  have fd := mul_abs f1 f2 d1 d2
  have ttt := mul_abs tt.1 tt.2 t1 t2
  have mpe : rv m * rv p = t * t * t + t * t * (rv p - t) + (rv m - t * t) * t + (rv m - t * t) * (rv p - t) := by grind
  have g1 : -(T * T * T * (4 / 10000000000000) + 2000000000 * eta) ≤ rv m * rv p - t * t * t := by grind
  have g2 : rv m * rv p - t * t * t ≤ T * T * T * (4 / 10000000000000) + 2000000000 * eta := by grind
  clear ttd ft fd mpe f1 f2
  obtain ⟨o2, r2, -, -⟩ := fo_mul r1.fin hp (by grind) (by grind)
  have x2 := r2.err (2 * (T * T * T) + 2000000000 * eta) (by grind) (by grind)
  rw [hu] at x2
  have hc : cub p = fo .mul m p := by unfold cub; rw [hm]
  rw [hc]
  refine ⟨⟨?_, ?_⟩, r2.fin, ?_, ?_⟩
  · exact o1
  · rw [hm]; exact o2
  · grind
  · grind
theorem rM0 {x y z : Nat} {X : Rat} (hx : FL.Fin x) (hy : FL.Fin y) (hz : FL.Fin z) (x1 : -X ≤ rv x) (x2 : rv x ≤ X) (y1 : -X ≤ rv y) (y2 : rv y ≤ X) (z1 : -X ≤ rv z) (z2 : rv z ≤ X) (hX : X ≤ 1000000) :
    rowOK 4605552317885431608 4600191143441610756 13817183224500110982 x y z ∧ FL.Fin (row 4605552317885431608 4600191143441610756 13817183224500110982 x y z) ∧ ∃ e, rv (row 4605552317885431608 4600191143441610756 13817183224500110982 x y z) = (922137292519399 : Rat) / 1125899906842624 * rv x + (1629880880926209 : Rat) / 4503599627370496 * rv y + (-2321583677399875 : Rat) / 18014398509481984 * rv z + e ∧ -(2 * X * (1 / 1000000000000000) + 8 * eta) ≤ e ∧ e ≤ 2 * X * (1 / 1000000000000000) + 8 * eta := by
  have h := rowG (S := 2) (α := (41 : Rat) / 50) (β := (37 : Rat) / 100) (γ := (13 : Rat) / 100) f4605552317885431608 f4600191143441610756 f13817183224500110982 hx hy hz x1 x2 y1 y2 z1 z2 (by rw [v4605552317885431608]; decide +kernel) (by rw [v4605552317885431608]; decide +kernel) (by rw [v4600191143441610756]; decide +kernel) (by rw [v4600191143441610756]; decide +kernel) (by rw [v13817183224500110982]; decide +kernel) (by rw [v13817183224500110982]; decide +kernel) (by decide +kernel) (by decide +kernel) hX
  rw [v4605552317885431608, v4600191143441610756, v13817183224500110982] at h
  exact h
theorem rM1 {x y z : Nat} {X : Rat} (hx : FL.Fin x) (hy : FL.Fin y) (hz : FL.Fin z) (x1 : -X ≤ rv x) (x2 : rv x ≤ X) (y1 : -X ≤ rv y) (y2 : rv y ≤ X) (z1 : -X ≤ rv z) (z2 : rv z ≤ X) (hX : X ≤ 1000000) :
    rowOK 4584914268437469546 4606545491340083669 4585369816687053158 x y z ∧ FL.Fin (row 4584914268437469546 4606545491340083669 4585369816687053158 x y z) ∧ ∃ e, rv (row 4584914268437469546 4606545491340083669 4585369816687053158 x y z) = (2376723700837557 : Rat) / 72057594037927936 * rv x + (8370271794807253 : Rat) / 9007199254740992 * rv y + (2604497825629363 : Rat) / 72057594037927936 * rv z + e ∧ -(2 * X * (1 / 1000000000000000) + 8 * eta) ≤ e ∧ e ≤ 2 * X * (1 / 1000000000000000) + 8 * eta := by
  have h := rowG (S := 2) (α := (1 : Rat) / 25) (β := (93 : Rat) / 100) (γ := (1 : Rat) / 25) f4584914268437469546 f4606545491340083669 f4585369816687053158 hx hy hz x1 x2 y1 y2 z1 z2 (by rw [v4584914268437469546]; decide +kernel) (by rw [v4584914268437469546]; decide +kernel) (by rw [v4606545491340083669]; decide +kernel) (by rw [v4606545491340083669]; decide +kernel) (by rw [v4585369816687053158]; decide +kernel) (by rw [v4585369816687053158]; decide +kernel) (by decide +kernel) (by decide +kernel) hX
  rw [v4584914268437469546, v4606545491340083669, v4585369816687053158] at h
  exact h
theorem rM2 {x y z : Nat} {X : Rat} (hx : FL.Fin x) (hy : FL.Fin y) (hz : FL.Fin z) (x1 : -X ≤ rv x) (x2 : rv x ≤ X) (y1 : -X ≤ rv y) (y2 : rv y ≤ X) (z1 : -X ≤ rv z) (z2 : rv z ≤ X) (hX : X ≤ 1000000) :
    rowOK 4587103887212223230 4598431736022207442 4603881711049788294 x y z ∧ FL.Fin (row 4587103887212223230 4598431736022207442 4603881711049788294 x y z) ∧ ∃ e, rv (row 4587103887212223230 4598431736022207442 4603881711049788294 x y z) = (3471533088214399 : Rat) / 72057594037927936 * rv x + (2380058052150761 : Rat) / 9007199254740992 * rv y + (2853245752255939 : Rat) / 4503599627370496 * rv z + e ∧ -(2 * X * (1 / 1000000000000000) + 8 * eta) ≤ e ∧ e ≤ 2 * X * (1 / 1000000000000000) + 8 * eta := by
  have h := rowG (S := 2) (α := (1 : Rat) / 20) (β := (27 : Rat) / 100) (γ := (16 : Rat) / 25) f4587103887212223230 f4598431736022207442 f4603881711049788294 hx hy hz x1 x2 y1 y2 z1 z2 (by rw [v4587103887212223230]; decide +kernel) (by rw [v4587103887212223230]; decide +kernel) (by rw [v4598431736022207442]; decide +kernel) (by rw [v4598431736022207442]; decide +kernel) (by rw [v4603881711049788294]; decide +kernel) (by rw [v4603881711049788294]; decide +kernel) (by decide +kernel) (by decide +kernel) hX
  rw [v4587103887212223230, v4598431736022207442, v4603881711049788294] at h
  exact h
theorem rN0 {x y z : Nat} {X : Rat} (hx : FL.Fin x) (hy : FL.Fin y) (hz : FL.Fin z) (x1 : -X ≤ rv x) (x2 : rv x ≤ X) (y1 : -X ≤ rv y) (y2 : rv y ≤ X) (z1 : -X ≤ rv z) (z2 : rv z ≤ X) (hX : X ≤ 1000000) :
    rowOK 4596750433936516346 4605323493066877613 13794716809331944248 x y z ∧ FL.Fin (row 4596750433936516346 4605323493066877613 13794716809331944248 x y z) ∧ ∃ e, rv (row 4596750433936516346 4605323493066877613 13794716809331944248 x y z) = (3791206822990461 : Rat) / 18014398509481984 * rv x + (7148273521601197 : Rat) / 9007199254740992 * rv y + (-586843790435687 : Rat) / 144115188075855872 * rv z + e ∧ -(5 * X * (1 / 1000000000000000) + 8 * eta) ≤ e ∧ e ≤ 5 * X * (1 / 1000000000000000) + 8 * eta := by
  have h := rowG (S := 5) (α := (11 : Rat) / 50) (β := (4 : Rat) / 5) (γ := (1 : Rat) / 100) f4596750433936516346 f4605323493066877613 f13794716809331944248 hx hy hz x1 x2 y1 y2 z1 z2 (by rw [v4596750433936516346]; decide +kernel) (by rw [v4596750433936516346]; decide +kernel) (by rw [v4605323493066877613]; decide +kernel) (by rw [v4605323493066877613]; decide +kernel) (by rw [v13794716809331944248]; decide +kernel) (by rw [v13794716809331944248]; decide +kernel) (by decide +kernel) (by decide +kernel) hX
  rw [v4596750433936516346, v4605323493066877613, v13794716809331944248] at h
  exact h
theorem rN1 {x y z : Nat} {X : Rat} (hx : FL.Fin x) (hy : FL.Fin y) (hz : FL.Fin z) (x1 : -X ≤ rv x) (x2 : rv x ≤ X) (y1 : -X ≤ rv y) (y2 : rv y ≤ X) (z1 : -X ≤ rv z) (z2 : rv z ≤ X) (hX : X ≤ 1000000) :
    rowOK 4611586932458118674 13836023159129529662 4601788794573910437 x y z ∧ FL.Fin (row 4611586932458118674 13836023159129529662 4601788794573910437 x y z) ∧ ∃ e, rv (row 4611586932458118674 13836023159129529662 4601788794573910437 x y z) = (4454056642735881 : Rat) / 2251799813685248 * rv x + (-2734351737368223 : Rat) / 1125899906842624 * rv y + (8117174656004517 : Rat) / 18014398509481984 * rv z + e ∧ -(5 * X * (1 / 1000000000000000) + 8 * eta) ≤ e ∧ e ≤ 5 * X * (1 / 1000000000000000) + 8 * eta := by
  have h := rowG (S := 5) (α := (99 : Rat) / 50) (β := (243 : Rat) / 100) (γ := (23 : Rat) / 50) f4611586932458118674 f13836023159129529662 f4601788794573910437 hx hy hz x1 x2 y1 y2 z1 z2 (by rw [v4611586932458118674]; decide +kernel) (by rw [v4611586932458118674]; decide +kernel) (by rw [v13836023159129529662]; decide +kernel) (by rw [v13836023159129529662]; decide +kernel) (by rw [v4601788794573910437]; decide +kernel) (by rw [v4601788794573910437]; decide +kernel) (by decide +kernel) (by decide +kernel) hX
  rw [v4611586932458118674, v13836023159129529662, v4601788794573910437] at h
  exact h
theorem rN2 {x y z : Nat} {X : Rat} (hx : FL.Fin x) (hy : FL.Fin y) (hz : FL.Fin z) (x1 : -X ≤ rv x) (x2 : rv x ≤ X) (y1 : -X ≤ rv y) (y2 : rv y ≤ X) (z1 : -X ≤ rv z) (z2 : rv z ≤ X) (hX : X ≤ 1000000) :
    rowOK 4583123551765604832 4605225800814425346 13828831160156894525 x y z ∧ FL.Fin (row 4583123551765604832 4605225800814425346 13828831160156894525 x y z) ∧ ∃ e, rv (row 4583123551765604832 4605225800814425346 13828831160156894525 x y z) = (233322823661903 : Rat) / 9007199254740992 * rv x + (3525290634574465 : Rat) / 4503599627370496 * rv y + (-7283903756842301 : Rat) / 9007199254740992 * rv z + e ∧ -(5 * X * (1 / 1000000000000000) + 8 * eta) ≤ e ∧ e ≤ 5 * X * (1 / 1000000000000000) + 8 * eta := by
  have h := rowG (S := 5) (α := (3 : Rat) / 100) (β := (79 : Rat) / 100) (γ := (81 : Rat) / 100) f4583123551765604832 f4605225800814425346 f13828831160156894525 hx hy hz x1 x2 y1 y2 z1 z2 (by rw [v4583123551765604832]; decide +kernel) (by rw [v4583123551765604832]; decide +kernel) (by rw [v4605225800814425346]; decide +kernel) (by rw [v4605225800814425346]; decide +kernel) (by rw [v13828831160156894525]; decide +kernel) (by rw [v13828831160156894525]; decide +kernel) (by decide +kernel) (by decide +kernel) hX
  rw [v4583123551765604832, v4605225800814425346, v13828831160156894525] at h
  exact h
theorem rK0 {x y z : Nat} {X : Rat} (hx : FL.Fin x) (hy : FL.Fin y) (hz : FL.Fin z) (x1 : -X ≤ rv x) (x2 : rv x ≤ X) (y1 : -X ≤ rv y) (y2 : rv y ≤ X) (z1 : -X ≤ rv z) (z2 : rv z ≤ X) (hX : X ≤ 1000000) :
    rowOK 4607182418786060931 4600811406850492424 4596943170085636112 x y z ∧ FL.Fin (row 4607182418786060931 4600811406850492424 4596943170085636112 x y z) ∧ ∃ e, rv (row 4607182418786060931 4600811406850492424 4596943170085636112 x y z) = (9007199240784515 : Rat) / 9007199254740992 * rv x + (892473366573313 : Rat) / 2251799813685248 * rv y + (485946862193793 : Rat) / 2251799813685248 * rv z + e ∧ -(3 * X * (1 / 1000000000000000) + 8 * eta) ≤ e ∧ e ≤ 3 * X * (1 / 1000000000000000) + 8 * eta := by
  have h := rowG (S := 3) (α := (1 : Rat) / 1) (β := (2 : Rat) / 5) (γ := (11 : Rat) / 50) f4607182418786060931 f4600811406850492424 f4596943170085636112 hx hy hz x1 x2 y1 y2 z1 z2 (by rw [v4607182418786060931]; decide +kernel) (by rw [v4607182418786060931]; decide +kernel) (by rw [v4600811406850492424]; decide +kernel) (by rw [v4600811406850492424]; decide +kernel) (by rw [v4596943170085636112]; decide +kernel) (by rw [v4596943170085636112]; decide +kernel) (by decide +kernel) (by decide +kernel) hX
  rw [v4607182418786060931, v4600811406850492424, v4596943170085636112] at h
  exact h
theorem rK1 {x y z : Nat} {X : Rat} (hx : FL.Fin x) (hy : FL.Fin y) (hz : FL.Fin z) (x1 : -X ≤ rv x) (x2 : rv x ≤ X) (y1 : -X ≤ rv y) (y2 : rv y ≤ X) (z1 : -X ≤ rv z) (z2 : rv z ≤ X) (hX : X ≤ 1000000) :
    rowOK 4607182418840017303 13815642953869197506 13812637635721267220 x y z ∧ FL.Fin (row 4607182418840017303 13815642953869197506 13812637635721267220 x y z) ∧ ∃ e, rv (row 4607182418840017303 13815642953869197506 13812637635721267220 x y z) = (4503599667370391 : Rat) / 4503599627370496 * rv x + (-3803248175628385 : Rat) / 36028797018963968 * rv y + (-1150294550831621 : Rat) / 18014398509481984 * rv z + e ∧ -(3 * X * (1 / 1000000000000000) + 8 * eta) ≤ e ∧ e ≤ 3 * X * (1 / 1000000000000000) + 8 * eta := by
  have h := rowG (S := 3) (α := (101 : Rat) / 100) (β := (11 : Rat) / 100) (γ := (7 : Rat) / 100) f4607182418840017303 f13815642953869197506 f13812637635721267220 hx hy hz x1 x2 y1 y2 z1 z2 (by rw [v4607182418840017303]; decide +kernel) (by rw [v4607182418840017303]; decide +kernel) (by rw [v13815642953869197506]; decide +kernel) (by rw [v13815642953869197506]; decide +kernel) (by rw [v13812637635721267220]; decide +kernel) (by rw [v13812637635721267220]; decide +kernel) (by decide +kernel) (by decide +kernel) hX
  rw [v4607182418840017303, v13815642953869197506, v13812637635721267220] at h
  exact h
theorem rK2 {x y z : Nat} {X : Rat} (hx : FL.Fin x) (hy : FL.Fin y) (hz : FL.Fin z) (x1 : -X ≤ rv x) (x2 : rv x ≤ X) (y1 : -X ≤ rv y) (y2 : rv y ≤ X) (z1 : -X ≤ rv z) (z2 : rv z ≤ X) (hX : X ≤ 1000000) :
    rowOK 4607182419046240057 13814484472384155798 13831867189814501828 x y z ∧ FL.Fin (row 4607182419046240057 13814484472384155798 13831867189814501828 x y z) ∧ ∃ e, rv (row 4607182419046240057 13814484472384155798 13831867189814501828 x y z) = (4503599873593145 : Rat) / 4503599627370496 * rv x + (-3224007433107531 : Rat) / 36028797018963968 * rv y + (-1454083446769777 : Rat) / 1125899906842624 * rv z + e ∧ -(3 * X * (1 / 1000000000000000) + 8 * eta) ≤ e ∧ e ≤ 3 * X * (1 / 1000000000000000) + 8 * eta := by
  have h := rowG (S := 3) (α := (101 : Rat) / 100) (β := (9 : Rat) / 100) (γ := (13 : Rat) / 10) f4607182419046240057 f13814484472384155798 f13831867189814501828 hx hy hz x1 x2 y1 y2 z1 z2 (by rw [v4607182419046240057]; decide +kernel) (by rw [v4607182419046240057]; decide +kernel) (by rw [v13814484472384155798]; decide +kernel) (by rw [v13814484472384155798]; decide +kernel) (by rw [v13831867189814501828]; decide +kernel) (by rw [v13831867189814501828]; decide +kernel) (by decide +kernel) (by decide +kernel) hX
  rw [v4607182419046240057, v13814484472384155798, v13831867189814501828] at h
  exact h
theorem rL0 {x y z : Nat} {X : Rat} (hx : FL.Fin x) (hy : FL.Fin y) (hz : FL.Fin z) (x1 : -X ≤ rv x) (x2 : rv x ≤ X) (y1 : -X ≤ rv y) (y2 : rv y ≤ X) (z1 : -X ≤ rv z) (z2 : rv z ≤ X) (hX : X ≤ 1000000) :
    rowOK 4608204194913203121 13826571607221310104 4598740710432799927 x y z ∧ FL.Fin (row 4608204194913203121 13826571607221310104 4598740710432799927 x y z) ∧ ∃ e, rv (row 4608204194913203121 13826571607221310104 4598740710432799927 x y z) = (5525375740556209 : Rat) / 4503599627370496 * rv x + (-628043852657235 : Rat) / 1125899906842624 * rv y + (5069090514894007 : Rat) / 18014398509481984 * rv z + e ∧ -(3 * X * (1 / 1000000000000000) + 8 * eta) ≤ e ∧ e ≤ 3 * X * (1 / 1000000000000000) + 8 * eta := by
  have h := rowG (S := 3) (α := (123 : Rat) / 100) (β := (14 : Rat) / 25) (γ := (29 : Rat) / 100) f4608204194913203121 f13826571607221310104 f4598740710432799927 hx hy hz x1 x2 y1 y2 z1 z2 (by rw [v4608204194913203121]; decide +kernel) (by rw [v4608204194913203121]; decide +kernel) (by rw [v13826571607221310104]; decide +kernel) (by rw [v13826571607221310104]; decide +kernel) (by rw [v4598740710432799927]; decide +kernel) (by rw [v4598740710432799927]; decide +kernel) (by decide +kernel) (by decide +kernel) hX
  rw [v4608204194913203121, v13826571607221310104, v4598740710432799927] at h
  exact h
theorem rL1 {x y z : Nat} {X : Rat} (hx : FL.Fin x) (hy : FL.Fin y) (hz : FL.Fin z) (x1 : -X ≤ rv x) (x2 : rv x ≤ X) (y1 : -X ≤ rv y) (y2 : rv y ≤ X) (z1 : -X ≤ rv z) (z2 : rv z ≤ X) (hX : X ≤ 1000000) :
    rowOK 13809380441552494495 4607688113723048619 13813203784447463117 x y z ∧ FL.Fin (row 13809380441552494495 4607688113723048619 13813203784447463117 x y z) ∧ ∃ e, rv (row 13809380441552494495 4607688113723048619 13813203784447463117 x y z) = (-5847583661924255 : Rat) / 144115188075855872 * rv x + (5009294550401707 : Rat) / 4503599627370496 * rv y + (-5167326929522381 : Rat) / 72057594037927936 * rv z + e ∧ -(3 * X * (1 / 1000000000000000) + 8 * eta) ≤ e ∧ e ≤ 3 * X * (1 / 1000000000000000) + 8 * eta := by
  have h := rowG (S := 3) (α := (1 : Rat) / 20) (β := (28 : Rat) / 25) (γ := (2 : Rat) / 25) f13809380441552494495 f4607688113723048619 f13813203784447463117 hx hy hz x1 x2 y1 y2 z1 z2 (by rw [v13809380441552494495]; decide +kernel) (by rw [v13809380441552494495]; decide +kernel) (by rw [v4607688113723048619]; decide +kernel) (by rw [v4607688113723048619]; decide +kernel) (by rw [v13813203784447463117]; decide +kernel) (by rw [v13813203784447463117]; decide +kernel) (by decide +kernel) (by decide +kernel) hX
  rw [v13809380441552494495, v4607688113723048619, v13813203784447463117] at h
  exact h
theorem rL2 {x y z : Nat} {X : Rat} (hx : FL.Fin x) (hy : FL.Fin y) (hz : FL.Fin z) (x1 : -X ≤ rv x) (x2 : rv x ≤ X) (y1 : -X ≤ rv y) (y2 : rv y ≤ X) (z1 : -X ≤ rv z) (z2 : rv z ≤ X) (hX : X ≤ 1000000) :
    rowOK 13813539708526269059 13824636605479633644 4609825689617722726 x y z ∧ FL.Fin (row 13813539708526269059 13824636605479633644 4609825689617722726 x y z) ∧ ∃ e, rv (row 13813539708526269059 13824636605479633644 4609825689617722726 x y z) = (-5503251008328323 : Rat) / 72057594037927936 * rv x + (-1898237176737979 : Rat) / 4503599627370496 * rv y + (3573435222537907 : Rat) / 2251799813685248 * rv z + e ∧ -(3 * X * (1 / 1000000000000000) + 8 * eta) ≤ e ∧ e ≤ 3 * X * (1 / 1000000000000000) + 8 * eta := by
  have h := rowG (S := 3) (α := (2 : Rat) / 25) (β := (43 : Rat) / 100) (γ := (159 : Rat) / 100) f13813539708526269059 f13824636605479633644 f4609825689617722726 hx hy hz x1 x2 y1 y2 z1 z2 (by rw [v13813539708526269059]; decide +kernel) (by rw [v13813539708526269059]; decide +kernel) (by rw [v13824636605479633644]; decide +kernel) (by rw [v13824636605479633644]; decide +kernel) (by rw [v4609825689617722726]; decide +kernel) (by rw [v4609825689617722726]; decide +kernel) (by decide +kernel) (by decide +kernel) hX
  rw [v13813539708526269059, v13824636605479633644, v4609825689617722726] at h
  exact h
theorem bK0 {a0 a1 a2 A e0 e1 e2 f v0 v1 v2 r E G : Rat} (h0 : v0 = (3791206822990461 : Rat) / 18014398509481984 * a0 + (7148273521601197 : Rat) / 9007199254740992 * a1 + (-586843790435687 : Rat) / 144115188075855872 * a2 + e0) (h1 : v1 = (4454056642735881 : Rat) / 2251799813685248 * a0 + (-2734351737368223 : Rat) / 1125899906842624 * a1 + (8117174656004517 : Rat) / 18014398509481984 * a2 + e1) (h2 : v2 = (233322823661903 : Rat) / 9007199254740992 * a0 + (3525290634574465 : Rat) / 4503599627370496 * a1 + (-7283903756842301 : Rat) / 9007199254740992 * a2 + e2) (hr : r = (9007199240784515 : Rat) / 9007199254740992 * v0 + (892473366573313 : Rat) / 2251799813685248 * v1 + (485946862193793 : Rat) / 2251799813685248 * v2 + f)
    (p0 : -A ≤ a0) (q0 : a0 ≤ A) (p1 : -A ≤ a1) (q1 : a1 ≤ A) (p2 : -A ≤ a2) (q2 : a2 ≤ A) (s0 : -E ≤ e0) (t0 : e0 ≤ E) (s1 : -E ≤ e1) (t1 : e1 ≤ E) (s2 : -E ≤ e2) (t2 : e2 ≤ E) (g1 : -G ≤ f) (g2 : f ≤ G) :
    -(A * (1 / 100000000000000) + 3 * E + G) ≤ r - a0 ∧ r - a0 ≤ A * (1 / 100000000000000) + 3 * E + G := by
  subst h0 h1 h2 hr
  constructor <;> grind
theorem bK1 {a0 a1 a2 A e0 e1 e2 f v0 v1 v2 r E G : Rat} (h0 : v0 = (3791206822990461 : Rat) / 18014398509481984 * a0 + (7148273521601197 : Rat) / 9007199254740992 * a1 + (-586843790435687 : Rat) / 144115188075855872 * a2 + e0) (h1 : v1 = (4454056642735881 : Rat) / 2251799813685248 * a0 + (-2734351737368223 : Rat) / 1125899906842624 * a1 + (8117174656004517 : Rat) / 18014398509481984 * a2 + e1) (h2 : v2 = (233322823661903 : Rat) / 9007199254740992 * a0 + (3525290634574465 : Rat) / 4503599627370496 * a1 + (-7283903756842301 : Rat) / 9007199254740992 * a2 + e2) (hr : r = (4503599667370391 : Rat) / 4503599627370496 * v0 + (-3803248175628385 : Rat) / 36028797018963968 * v1 + (-1150294550831621 : Rat) / 18014398509481984 * v2 + f)
    (p0 : -A ≤ a0) (q0 : a0 ≤ A) (p1 : -A ≤ a1) (q1 : a1 ≤ A) (p2 : -A ≤ a2) (q2 : a2 ≤ A) (s0 : -E ≤ e0) (t0 : e0 ≤ E) (s1 : -E ≤ e1) (t1 : e1 ≤ E) (s2 : -E ≤ e2) (t2 : e2 ≤ E) (g1 : -G ≤ f) (g2 : f ≤ G) :
    -(A * (1 / 100000000000000) + 3 * E + G) ≤ r - a1 ∧ r - a1 ≤ A * (1 / 100000000000000) + 3 * E + G := by
  subst h0 h1 h2 hr
  constructor <;> grind
theorem bK2 {a0 a1 a2 A e0 e1 e2 f v0 v1 v2 r E G : Rat} (h0 : v0 = (3791206822990461 : Rat) / 18014398509481984 * a0 + (7148273521601197 : Rat) / 9007199254740992 * a1 + (-586843790435687 : Rat) / 144115188075855872 * a2 + e0) (h1 : v1 = (4454056642735881 : Rat) / 2251799813685248 * a0 + (-2734351737368223 : Rat) / 1125899906842624 * a1 + (8117174656004517 : Rat) / 18014398509481984 * a2 + e1) (h2 : v2 = (233322823661903 : Rat) / 9007199254740992 * a0 + (3525290634574465 : Rat) / 4503599627370496 * a1 + (-7283903756842301 : Rat) / 9007199254740992 * a2 + e2) (hr : r = (4503599873593145 : Rat) / 4503599627370496 * v0 + (-3224007433107531 : Rat) / 36028797018963968 * v1 + (-1454083446769777 : Rat) / 1125899906842624 * v2 + f)
    (p0 : -A ≤ a0) (q0 : a0 ≤ A) (p1 : -A ≤ a1) (q1 : a1 ≤ A) (p2 : -A ≤ a2) (q2 : a2 ≤ A) (s0 : -E ≤ e0) (t0 : e0 ≤ E) (s1 : -E ≤ e1) (t1 : e1 ≤ E) (s2 : -E ≤ e2) (t2 : e2 ≤ E) (g1 : -G ≤ f) (g2 : f ≤ G) :
    -(A * (1 / 100000000000000) + 3 * E + G) ≤ r - a2 ∧ r - a2 ≤ A * (1 / 100000000000000) + 3 * E + G := by
  subst h0 h1 h2 hr
  constructor <;> grind
theorem bL0 {a0 a1 a2 A e0 e1 e2 f v0 v1 v2 r E G : Rat} (h0 : v0 = (922137292519399 : Rat) / 1125899906842624 * a0 + (1629880880926209 : Rat) / 4503599627370496 * a1 + (-2321583677399875 : Rat) / 18014398509481984 * a2 + e0) (h1 : v1 = (2376723700837557 : Rat) / 72057594037927936 * a0 + (8370271794807253 : Rat) / 9007199254740992 * a1 + (2604497825629363 : Rat) / 72057594037927936 * a2 + e1) (h2 : v2 = (3471533088214399 : Rat) / 72057594037927936 * a0 + (2380058052150761 : Rat) / 9007199254740992 * a1 + (2853245752255939 : Rat) / 4503599627370496 * a2 + e2) (hr : r = (5525375740556209 : Rat) / 4503599627370496 * v0 + (-628043852657235 : Rat) / 1125899906842624 * v1 + (5069090514894007 : Rat) / 18014398509481984 * v2 + f)
    (p0 : -A ≤ a0) (q0 : a0 ≤ A) (p1 : -A ≤ a1) (q1 : a1 ≤ A) (p2 : -A ≤ a2) (q2 : a2 ≤ A) (s0 : -E ≤ e0) (t0 : e0 ≤ E) (s1 : -E ≤ e1) (t1 : e1 ≤ E) (s2 : -E ≤ e2) (t2 : e2 ≤ E) (g1 : -G ≤ f) (g2 : f ≤ G) :
    -(A * (1 / 100000000000000) + 3 * E + G) ≤ r - a0 ∧ r - a0 ≤ A * (1 / 100000000000000) + 3 * E + G := by
  subst h0 h1 h2 hr
  constructor <;> grind
theorem bL1 {a0 a1 a2 A e0 e1 e2 f v0 v1 v2 r E G : Rat} (h0 : v0 = (922137292519399 : Rat) / 1125899906842624 * a0 + (1629880880926209 : Rat) / 4503599627370496 * a1 + (-2321583677399875 : Rat) / 18014398509481984 * a2 + e0) (h1 : v1 = (2376723700837557 : Rat) / 72057594037927936 * a0 + (8370271794807253 : Rat) / 9007199254740992 * a1 + (2604497825629363 : Rat) / 72057594037927936 * a2 + e1) (h2 : v2 = (3471533088214399 : Rat) / 72057594037927936 * a0 + (2380058052150761 : Rat) / 9007199254740992 * a1 + (2853245752255939 : Rat) / 4503599627370496 * a2 + e2) (hr : r = (-5847583661924255 : Rat) / 144115188075855872 * v0 + (5009294550401707 : Rat) / 4503599627370496 * v1 + (-5167326929522381 : Rat) / 72057594037927936 * v2 + f)
    (p0 : -A ≤ a0) (q0 : a0 ≤ A) (p1 : -A ≤ a1) (q1 : a1 ≤ A) (p2 : -A ≤ a2) (q2 : a2 ≤ A) (s0 : -E ≤ e0) (t0 : e0 ≤ E) (s1 : -E ≤ e1) (t1 : e1 ≤ E) (s2 : -E ≤ e2) (t2 : e2 ≤ E) (g1 : -G ≤ f) (g2 : f ≤ G) :
    -(A * (1 / 100000000000000) + 3 * E + G) ≤ r - a1 ∧ r - a1 ≤ A * (1 / 100000000000000) + 3 * E + G := by
  subst h0 h1 h2 hr
  constructor <;> grind
theorem bL2 {a0 a1 a2 A e0 e1 e2 f v0 v1 v2 r E G : Rat} (h0 : v0 = (922137292519399 : Rat) / 1125899906842624 * a0 + (1629880880926209 : Rat) / 4503599627370496 * a1 + (-2321583677399875 : Rat) / 18014398509481984 * a2 + e0) (h1 : v1 = (2376723700837557 : Rat) / 72057594037927936 * a0 + (8370271794807253 : Rat) / 9007199254740992 * a1 + (2604497825629363 : Rat) / 72057594037927936 * a2 + e1) (h2 : v2 = (3471533088214399 : Rat) / 72057594037927936 * a0 + (2380058052150761 : Rat) / 9007199254740992 * a1 + (2853245752255939 : Rat) / 4503599627370496 * a2 + e2) (hr : r = (-5503251008328323 : Rat) / 72057594037927936 * v0 + (-1898237176737979 : Rat) / 4503599627370496 * v1 + (3573435222537907 : Rat) / 2251799813685248 * v2 + f)
    (p0 : -A ≤ a0) (q0 : a0 ≤ A) (p1 : -A ≤ a1) (q1 : a1 ≤ A) (p2 : -A ≤ a2) (q2 : a2 ≤ A) (s0 : -E ≤ e0) (t0 : e0 ≤ E) (s1 : -E ≤ e1) (t1 : e1 ≤ E) (s2 : -E ≤ e2) (t2 : e2 ≤ E) (g1 : -G ≤ f) (g2 : f ≤ G) :
    -(A * (1 / 100000000000000) + 3 * E + G) ≤ r - a2 ∧ r - a2 ≤ A * (1 / 100000000000000) + 3 * E + G := by
  subst h0 h1 h2 hr
  constructor <;> grind
end Go.Proofs.Ytekideiinifffaa.F64
