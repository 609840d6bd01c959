/- Constants, and the D65 law, in plain Lean: linear rec2020 grays go to multiples of the D65 white. -/
import Derived.Test.YtlonknbmhbepnaaLin
import Derived.Test.YtlonknbmhbepnaaSmall
namespace Go.Proofs.Ytlonknbmhbepnaa.F64
open Go.Proofs.Ytlonknbmhbepnaa.FL

theorem v0 : rv 0 = (0 : Rat) := by decide +kernel
theorem f0 : FL.Fin 0 := by unfold FL.Fin; decide
theorem v4517329193108106637 : rv 4517329193108106637 = (4722366482869645 : Rat) / 4722366482869645213696 := by decide +kernel
theorem f4517329193108106637 : FL.Fin 4517329193108106637 := by unfold FL.Fin; decide
theorem v4532020583610935537 : rv 4532020583610935537 = (5902958103587057 : Rat) / 590295810358705651712 := by decide +kernel
theorem f4532020583610935537 : FL.Fin 4532020583610935537 := by unfold FL.Fin; decide
theorem v4580202195299733041 : rv 4580202195299733041 = (4544973891309105 : Rat) / 288230376151711744 := by decide +kernel
theorem f4580202195299733041 : FL.Fin 4580202195299733041 := by unfold FL.Fin; decide
theorem v4580741564155148474 : rv 4580741564155148474 = (2542171373362269 : Rat) / 144115188075855872 := by decide +kernel
theorem f4580741564155148474 : FL.Fin 4580741564155148474 := by unfold FL.Fin; decide
theorem v4583748624285553972 : rv 4583748624285553972 = (2022850719282509 : Rat) / 72057594037927936 := by decide +kernel
theorem f4583748624285553972 : FL.Fin 4583748624285553972 := by unfold FL.Fin; decide
theorem v4588707099058069666 : rv 4588707099058069666 = (4273139011137617 : Rat) / 72057594037927936 := by decide +kernel
theorem f4588707099058069666 : FL.Fin 4588707099058069666 := by unfold FL.Fin; decide
theorem v4594378393355354008 : rv 4594378393355354008 = (651296633102323 : Rat) / 4503599627370496 := by decide +kernel
theorem f4594378393355354008 : FL.Fin 4594378393355354008 := by unfold FL.Fin; decide
theorem v4595252598665090074 : rv 4595252598665090074 = (3042289187277325 : Rat) / 18014398509481984 := by decide +kernel
theorem f4595252598665090074 : FL.Fin 4595252598665090074 := by unfold FL.Fin; decide
theorem v4598404006225602290 : rv 4598404006225602290 = (2366193153848185 : Rat) / 9007199254740992 := by decide +kernel
theorem f4598404006225602290 : FL.Fin 4598404006225602290 := by unfold FL.Fin; decide
theorem v4603912427603237084 : rv 4603912427603237084 = (1434302014490167 : Rat) / 2251799813685248 := by decide +kernel
theorem f4603912427603237084 : FL.Fin 4603912427603237084 := by unfold FL.Fin; decide
theorem v4604282083269777021 : rv 4604282083269777021 = (6106863724500605 : Rat) / 9007199254740992 := by decide +kernel
theorem f4604282083269777021 : FL.Fin 4604282083269777021 := by unfold FL.Fin; decide
theorem v4606660930076757740 : rv 4606660930076757740 = (2121427632870331 : Rat) / 2251799813685248 := by decide +kernel
theorem f4606660930076757740 : FL.Fin 4606660930076757740 := by unfold FL.Fin; decide
theorem v4606736165463080392 : rv 4606736165463080392 = (1070118239725497 : Rat) / 1125899906842624 := by decide +kernel
theorem f4606736165463080392 : FL.Fin 4606736165463080392 := by unfold FL.Fin; decide
theorem v4607182418800017408 : rv 4607182418800017408 = (1 : Rat) := by decide +kernel
theorem f4607182418800017408 : FL.Fin 4607182418800017408 := by unfold FL.Fin; decide
theorem v4607457071083198894 : rv 4607457071083198894 = (2389125955275991 : Rat) / 2251799813685248 := by decide +kernel
theorem f4607457071083198894 : FL.Fin 4607457071083198894 := by unfold FL.Fin; decide
theorem v4607583499253154051 : rv 4607583499253154051 = (4904680080507139 : Rat) / 4503599627370496 := by decide +kernel
theorem f4607583499253154051 : FL.Fin 4607583499253154051 := by unfold FL.Fin; decide
theorem v4609958803467607422 : rv 4609958803467607422 = (3639992147480255 : Rat) / 2251799813685248 := by decide +kernel
theorem f4609958803467607422 : FL.Fin 4609958803467607422 := by unfold FL.Fin; decide
theorem v4610409928823119432 : rv 4610409928823119432 = (966388706309065 : Rat) / 562949953421312 := by decide +kernel
theorem f4610409928823119432 : FL.Fin 4610409928823119432 := by unfold FL.Fin; decide
theorem v4696837146684686336 : rv 4696837146684686336 = (1000000 : Rat) := by decide +kernel
theorem f4696837146684686336 : FL.Fin 4696837146684686336 := by unfold FL.Fin; decide
theorem v13809696752864339029 : rv 13809696752864339029 = (-6163894973768789 : Rat) / 144115188075855872 := by decide +kernel
theorem f13809696752864339029 : FL.Fin 13809696752864339029 := by unfold FL.Fin; decide
theorem v13821607897934212378 : rv 13821607897934212378 = (-2282120580765325 : Rat) / 9007199254740992 := by decide +kernel
theorem f13821607897934212378 : FL.Fin 13821607897934212378 := by unfold FL.Fin; decide
theorem v13823450852009809460 : rv 13823450852009809460 = (-1601798809281933 : Rat) / 4503599627370496 := by decide +kernel
theorem f13823450852009809460 : FL.Fin 13823450852009809460 := by unfold FL.Fin; decide
theorem v13827552215197025300 : rv 13827552215197025300 = (-1501239699243269 : Rat) / 2251799813685248 := by decide +kernel
theorem f13827552215197025300 : FL.Fin 13827552215197025300 := by unfold FL.Fin; decide

/-- A row of a gray against a word 'g' that stands near 'rv t * q'. -/
theorem d65_row {a b c t g : Nat} {X q : Rat} (ha : FL.Fin a) (hb : FL.Fin b) (hc : FL.Fin c) (ht : FL.Fin t) (hg : FL.Fin g)
    (a0 : -2 ≤ rv a ∧ rv a ≤ 2) (b0 : -2 ≤ rv b ∧ rv b ≤ 2) (c0 : -2 ≤ rv c ∧ rv c ≤ 2)
    (hs : -(1 / 1000000) ≤ rv a + rv b + rv c - q ∧ rv a + rv b + rv c - q ≤ 1 / 1000000)
    (g1 : rv t * q - (X + 1) * (1 / 1000000) ≤ rv g) (g2 : rv g ≤ rv t * q + (X + 1) * (1 / 1000000))
    (x1 : -X ≤ rv t) (x2 : rv t ≤ X) (x3 : X ≤ 1000000) :
    rowOK a b c t t t ∧ ok .sub (row a b c t t t) g ∧ FL.Fin (fo .sub (row a b c t t t) g) ∧
    rv (fo .sub (row a b c t t t) g) ≤ (X + 1) * (1 / 200000) ∧ - rv (fo .sub (row a b c t t t) g) ≤ (X + 1) * (1 / 200000) := by
  have hbig := big_le
  have hu := u53_eq
  have hep := eta_pos
  have hel := eta_le
  have ma := mul_abs x1 x2 a0.1 a0.2
  have mb := mul_abs x1 x2 b0.1 b0.2
  have mc := mul_abs x1 x2 c0.1 c0.2
  have ms := mul_abs x1 x2 hs.1 hs.2
  obtain ⟨o1, f1, l1, u1⟩ := row_err (T := 6 * X) ha hb hc ht ht ht ma.1 ma.2 mb.1 mb.2 mc.1 mc.2 (by grind) (by grind)
  refine ⟨o1, ?_⟩
  generalize row a b c t t t = r1 at *
  rw [hu] at l1 u1
  have hdiff : -((X + 1) * (1 / 400000)) ≤ rv r1 - rv g ∧ rv r1 - rv g ≤ (X + 1) * (1 / 400000) := by
    generalize rv t = x at *
    generalize rv a = ra at *
    generalize rv b = rb at *
    generalize rv c = rc at *
    have hlin : x * (ra + rb + rc - q) = (x * ra + x * rb + x * rc) - x * q := by grind
    rw [hlin] at ms
    generalize x * ra + x * rb + x * rc = p at *
    generalize x * q = qq at *
    clear ma mb mc a0 b0 c0 hs hlin
    constructor <;> grind
  obtain ⟨o3, r3, -⟩ := fo_sub f1 hg (by grind) (by grind)
  have e3 := r3.err _ hdiff.1 hdiff.2
  rw [hu] at e3
  refine ⟨o3, r3.fin, ?_, ?_⟩ <;> grind

def tolw (t : Nat) : Nat := fo .mul 4532020583610935537 (fo .add 4607182418800017408 (absw t))
theorem tol_ok {t : Nat} (ht : FL.Fin t) (x3 : rv (absw t) ≤ 1000000) : ok .add 4607182418800017408 (absw t) ∧ ok .mul 4532020583610935537 (fo .add 4607182418800017408 (absw t)) ∧ FL.Fin (tolw t) ∧
    (rv (absw t) + 1) * (1 / 200000) ≤ rv (tolw t) := by
  have hbig := big_le
  have hu := u53_eq
  have hep := eta_pos
  have hel := eta_le
  have hx0 := (absw_rv ht).1
  have hfx := absw_fin ht
  unfold tolw
  generalize absw t = x at *
  have v1 := v4607182418800017408
  have v9 := v4532020583610935537
  obtain ⟨o1, r1, -⟩ := fo_add f4607182418800017408 hfx (by grind) (by grind)
  have e1 := r1.err (1 + rv x) (by grind) (by grind)
  generalize fo .add 4607182418800017408 x = s at *
  rw [hu, v1] at e1
  obtain ⟨o2, r2, -, -⟩ := fo_mul f4532020583610935537 r1.fin (by rw [v9]; grind) (by rw [v9]; grind)
  have e2 := r2.err (1 + rv x) (by rw [v9]; grind) (by rw [v9]; grind)
  rw [hu, v9] at e2
  refine ⟨o1, o2, r2.fin, ?_⟩
  grind

/-- 't' times a white's coordinate. -/
theorem white_ok {t d : Nat} {X : Rat} (ht : FL.Fin t) (hd : FL.Fin d) (d0 : -2 ≤ rv d ∧ rv d ≤ 2) (x1 : -X ≤ rv t) (x2 : rv t ≤ X) (x3 : X ≤ 1000000) :
    ok .mul t d ∧ FL.Fin (fo .mul t d) ∧ rv t * rv d - (X + 1) * (1 / 1000000) ≤ rv (fo .mul t d) ∧ rv (fo .mul t d) ≤ rv t * rv d + (X + 1) * (1 / 1000000) := by
  have hbig := big_le
  have hu := u53_eq
  have hep := eta_pos
  have hel := eta_le
  have md := mul_abs x1 x2 d0.1 d0.2
  obtain ⟨o2, r2, -, -⟩ := fo_mul ht hd (by grind) (by grind)
  have e2 := r2.err _ md.1 md.2
  rw [hu] at e2
  refine ⟨o2, r2.fin, ?_, ?_⟩ <;> grind

theorem d65 {t : Nat} (ht : FL.Fin t) (x3 : rv (absw t) ≤ 1000000) :
    lin_2020_to_xyzOK t t t ∧ ok .mul t 4606736165463080392 ∧ ok .mul t 4607583499253154051 ∧
    (ok .sub (row 4603912427603237084 4594378393355354008 4595252598665090074 t t t) (fo .mul t 4606736165463080392) ∧ FL.Fin (fo .sub (row 4603912427603237084 4594378393355354008 4595252598665090074 t t t) (fo .mul t 4606736165463080392)) ∧ rv (fo .sub (row 4603912427603237084 4594378393355354008 4595252598665090074 t t t) (fo .mul t 4606736165463080392)) ≤ rv (tolw t) ∧ - rv (fo .sub (row 4603912427603237084 4594378393355354008 4595252598665090074 t t t) (fo .mul t 4606736165463080392)) ≤ rv (tolw t)) ∧
    (ok .sub (row 4598404006225602290 4604282083269777021 4588707099058069666 t t t) t ∧ FL.Fin (fo .sub (row 4598404006225602290 4604282083269777021 4588707099058069666 t t t) t) ∧ rv (fo .sub (row 4598404006225602290 4604282083269777021 4588707099058069666 t t t) t) ≤ rv (tolw t) ∧ - rv (fo .sub (row 4598404006225602290 4604282083269777021 4588707099058069666 t t t) t) ≤ rv (tolw t)) ∧
    (ok .sub (row 0 4583748624285553972 4607457071083198894 t t t) (fo .mul t 4607583499253154051) ∧ FL.Fin (fo .sub (row 0 4583748624285553972 4607457071083198894 t t t) (fo .mul t 4607583499253154051)) ∧ rv (fo .sub (row 0 4583748624285553972 4607457071083198894 t t t) (fo .mul t 4607583499253154051)) ≤ rv (tolw t) ∧ - rv (fo .sub (row 0 4583748624285553972 4607457071083198894 t t t) (fo .mul t 4607583499253154051)) ≤ rv (tolw t)) := by
  obtain ⟨-, -, -, htol⟩ := tol_ok ht x3
  obtain ⟨x0, x2, x1, -⟩ := absw_rv ht
  obtain ⟨w0, wf0, wl0, wu0⟩ := white_ok ht f4606736165463080392 (by rw [v4606736165463080392]; decide +kernel) (X := rv (absw t)) (by grind) x2 x3
  obtain ⟨w2, wf2, wl2, wu2⟩ := white_ok ht f4607583499253154051 (by rw [v4607583499253154051]; decide +kernel) (X := rv (absw t)) (by grind) x2 x3
  obtain ⟨p0, k0, g0, l0, u0⟩ := d65_row (X := rv (absw t)) (q := rv 4606736165463080392) f4603912427603237084 f4594378393355354008 f4595252598665090074 ht wf0 (by rw [v4603912427603237084]; decide +kernel) (by rw [v4594378393355354008]; decide +kernel) (by rw [v4595252598665090074]; decide +kernel) (by rw [v4603912427603237084, v4594378393355354008, v4595252598665090074, v4606736165463080392]; decide +kernel) wl0 wu0 (by grind) x2 x3
  obtain ⟨p1, k1, g1, l1, u1⟩ := d65_row (X := rv (absw t)) (q := 1) f4598404006225602290 f4604282083269777021 f4588707099058069666 ht ht (by rw [v4598404006225602290]; decide +kernel) (by rw [v4604282083269777021]; decide +kernel) (by rw [v4588707099058069666]; decide +kernel) (by rw [v4598404006225602290, v4604282083269777021, v4588707099058069666]; decide +kernel) (by grind) (by grind) (by grind) x2 x3
  obtain ⟨p2, k2, g2, l2, u2⟩ := d65_row (X := rv (absw t)) (q := rv 4607583499253154051) f0 f4583748624285553972 f4607457071083198894 ht wf2 (by rw [v0]; decide +kernel) (by rw [v4583748624285553972]; decide +kernel) (by rw [v4607457071083198894]; decide +kernel) (by rw [v0, v4583748624285553972, v4607457071083198894, v4607583499253154051]; decide +kernel) wl2 wu2 (by grind) x2 x3
  exact ⟨⟨p0, p1, p2⟩, w0, w2, ⟨k0, g0, Rat.le_trans l0 htol, Rat.le_trans u0 htol⟩, ⟨k1, g1, Rat.le_trans l1 htol, Rat.le_trans u1 htol⟩, ⟨k2, g2, Rat.le_trans l2 htol, Rat.le_trans u2 htol⟩⟩
end Go.Proofs.Ytlonknbmhbepnaa.F64
