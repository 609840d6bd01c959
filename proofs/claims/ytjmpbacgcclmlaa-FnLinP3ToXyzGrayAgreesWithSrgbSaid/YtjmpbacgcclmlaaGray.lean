/- A neutral gray in linear display-p3 and in linear sRGB: the two XYZ triples agree to within the tolerance. Plain Lean. -/
import Derived.Test.YtjmpbacgcclmlaaLin
import Derived.Test.YtjmpbacgcclmlaaSmall
namespace Go.Proofs.Ytjmpbacgcclmlaa.F64
open Go.Proofs.Ytjmpbacgcclmlaa.FL

theorem v0 : rv 0 = (0 : Rat) := by decide +kernel
theorem f0 : FL.Fin 0 := by unfold FL.Fin; decide
theorem v4472406533629990549 : rv 4472406533629990549 = (4835703278458517 : Rat) / 4835703278458516698824704 := by decide +kernel
theorem f4472406533629990549 : FL.Fin 4472406533629990549 := by unfold FL.Fin; decide
theorem v4581228950558139524 : rv 4581228950558139524 = (1392932287428897 : Rat) / 72057594037927936 := by decide +kernel
theorem f4581228950558139524 : FL.Fin 4581228950558139524 := by unfold FL.Fin; decide
theorem v4586662344547128081 : rv 4586662344547128081 = (6501523511333649 : Rat) / 144115188075855872 := by decide +kernel
theorem f4586662344547128081 : FL.Fin 4586662344547128081 := by unfold FL.Fin; decide
theorem v4589866425216086747 : rv 4589866425216086747 = (5202004552921819 : Rat) / 72057594037927936 := by decide +kernel
theorem f4589866425216086747 : FL.Fin 4589866425216086747 := by unfold FL.Fin; decide
theorem v4590377644931452072 : rv 4590377644931452072 = (714153033535893 : Rat) / 9007199254740992 := by decide +kernel
theorem f4590377644931452072 : FL.Fin 4590377644931452072 := by unfold FL.Fin; decide
theorem v4593253309717046303 : rv 4593253309717046303 = (8588889053881375 : Rat) / 72057594037927936 := by decide +kernel
theorem f4593253309717046303 : FL.Fin 4593253309717046303 := by unfold FL.Fin; decide
theorem v4595670525981687698 : rv 4595670525981687698 = (3251252845576137 : Rat) / 18014398509481984 := by decide +kernel
theorem f4595670525981687698 : FL.Fin 4595670525981687698 := by unfold FL.Fin; decide
theorem v4596309550625894354 : rv 4596309550625894354 = (3570765167679465 : Rat) / 18014398509481984 := by decide +kernel
theorem f4596309550625894354 : FL.Fin 4596309550625894354 := by unfold FL.Fin; decide
theorem v4596829147871394358 : rv 4596829147871394358 = (3830563790429467 : Rat) / 18014398509481984 := by decide +kernel
theorem f4596829147871394358 : FL.Fin 4596829147871394358 := by unfold FL.Fin; decide
theorem v4597417698381910165 : rv 4597417698381910165 = (8249678091374741 : Rat) / 36028797018963968 := by decide +kernel
theorem f4597417698381910165 : FL.Fin 4597417698381910165 := by unfold FL.Fin; decide
theorem v4598457463613748745 : rv 4598457463613748745 = (4785843695842825 : Rat) / 18014398509481984 := by decide +kernel
theorem f4598457463613748745 : FL.Fin 4598457463613748745 := by unfold FL.Fin; decide
theorem v4600113286708316951 : rv 4600113286708316951 = (6441666790411031 : Rat) / 18014398509481984 := by decide +kernel
theorem f4600113286708316951 : FL.Fin 4600113286708316951 := by unfold FL.Fin; decide
theorem v4601100592117526705 : rv 4601100592117526705 = (7428972199620785 : Rat) / 18014398509481984 := by decide +kernel
theorem f4601100592117526705 : FL.Fin 4601100592117526705 := by unfold FL.Fin; decide
theorem v4602436902889991582 : rv 4602436902889991582 = (4382641486042831 : Rat) / 9007199254740992 := by decide +kernel
theorem f4602436902889991582 : FL.Fin 4602436902889991582 := by unfold FL.Fin; decide
theorem v4604405846243637830 : rv 4604405846243637830 = (3115313349180707 : Rat) / 4503599627370496 := by decide +kernel
theorem f4604405846243637830 : FL.Fin 4604405846243637830 := by unfold FL.Fin; decide
theorem v4604616886335687447 : rv 4604616886335687447 = (6441666790411031 : Rat) / 9007199254740992 := by decide +kernel
theorem f4604616886335687447 : FL.Fin 4604616886335687447 := by unfold FL.Fin; decide
theorem v4606736852038626910 : rv 4606736852038626910 = (4280816246675247 : Rat) / 4503599627370496 := by decide +kernel
theorem f4606736852038626910 : FL.Fin 4606736852038626910 := by unfold FL.Fin; decide
theorem v4607182418800017408 : rv 4607182418800017408 = (1 : Rat) := by decide +kernel
theorem f4607182418800017408 : FL.Fin 4607182418800017408 := by unfold FL.Fin; decide
theorem v4607380326643424874 : rv 4607380326643424874 = (2350753735388981 : Rat) / 2251799813685248 := by decide +kernel
theorem f4607380326643424874 : FL.Fin 4607380326643424874 := by unfold FL.Fin; decide
theorem v4696837146684686336 : rv 4696837146684686336 = (1000000 : Rat) := by decide +kernel
theorem f4696837146684686336 : FL.Fin 4696837146684686336 := by unfold FL.Fin; decide
theorem v13920209183539462144 : rv 13920209183539462144 = (-1000000 : Rat) := by decide +kernel
theorem f13920209183539462144 : FL.Fin 13920209183539462144 := by unfold FL.Fin; decide

theorem gray_row {a b c d e f t : Nat} {X : Rat} (ha : FL.Fin a) (hb : FL.Fin b) (hc : FL.Fin c) (hd : FL.Fin d) (he : FL.Fin e) (hf : FL.Fin f) (ht : FL.Fin t)
    (a0 : -2 ≤ rv a ∧ rv a ≤ 2) (b0 : -2 ≤ rv b ∧ rv b ≤ 2) (c0 : -2 ≤ rv c ∧ rv c ≤ 2) (d0 : -2 ≤ rv d ∧ rv d ≤ 2) (e0 : -2 ≤ rv e ∧ rv e ≤ 2) (f0 : -2 ≤ rv f ∧ rv f ≤ 2)
    (hs : -(1 / 1000000000000000) ≤ rv a + rv b + rv c - (rv d + rv e + rv f) ∧ rv a + rv b + rv c - (rv d + rv e + rv f) ≤ 1 / 1000000000000000)
    (x1 : -X ≤ rv t) (x2 : rv t ≤ X) (x3 : X ≤ 1000000) :
    rowOK a b c t t t ∧ rowOK d e f t t t ∧ ok .sub (row a b c t t t) (row d e f t t t) ∧ FL.Fin (fo .sub (row a b c t t t) (row d e f t t t)) ∧
    rv (fo .sub (row a b c t t t) (row d e f t t t)) ≤ X * (1 / 10000000000000) + 1 / 10000000000000 ∧ - rv (fo .sub (row a b c t t t) (row d e f t t t)) ≤ X * (1 / 10000000000000) + 1 / 10000000000000 := by
  have hbig := big_le
  have hu := u53_eq
  have hep := eta_pos
  have hel := eta_le
  have ma := mul_abs x1 x2 a0.1 a0.2
  have mb := mul_abs x1 x2 b0.1 b0.2
  have mc := mul_abs x1 x2 c0.1 c0.2
  have md := mul_abs x1 x2 d0.1 d0.2
  have me := mul_abs x1 x2 e0.1 e0.2
  have mf := mul_abs x1 x2 f0.1 f0.2
  have ms := mul_abs x1 x2 hs.1 hs.2
  obtain ⟨o1, f1, l1, u1⟩ := row_err (T := 6 * X) ha hb hc ht ht ht ma.1 ma.2 mb.1 mb.2 mc.1 mc.2 (by grind) (by grind)
  obtain ⟨o2, f2, l2, u2⟩ := row_err (T := 6 * X) hd he hf ht ht ht md.1 md.2 me.1 me.2 mf.1 mf.2 (by grind) (by grind)
  refine ⟨o1, o2, ?_⟩
  generalize row a b c t t t = r1 at *
  generalize row d e f t t t = r2 at *
  rw [hu] at l1 l2 u1 u2
  have hdiff : -(X * (1 / 100000000000000) + 1 / 100000000000000) ≤ rv r1 - rv r2 ∧ rv r1 - rv r2 ≤ X * (1 / 100000000000000) + 1 / 100000000000000 := by
    generalize rv t = x at *
    generalize rv a = ra at *
    generalize rv b = rb at *
    generalize rv c = rc at *
    generalize rv d = rd at *
    generalize rv e = re at *
    generalize rv f = rf at *
    have hlin : x * (ra + rb + rc - (rd + re + rf)) = (x * ra + x * rb + x * rc) - (x * rd + x * re + x * rf) := by grind
    rw [hlin] at ms
    generalize x * ra + x * rb + x * rc = p at *
    generalize x * rd + x * re + x * rf = q at *
    clear ma mb mc md me mf a0 b0 c0 d0 e0 f0 hs hlin
    constructor <;> grind
  obtain ⟨o3, r3, -⟩ := fo_sub f1 f2 (by grind) (by grind)
  have e3 := r3.err _ hdiff.1 hdiff.2
  rw [hu] at e3
  refine ⟨o3, r3.fin, ?_, ?_⟩ <;> grind

/-- The tolerance that the statement computes. -/
def tolw (t : Nat) : Nat := fo .mul 4472406533629990549 (fo .add 4607182418800017408 (absw t))
theorem tol_ok {t : Nat} (ht : FL.Fin t) (x3 : rv (absw t) ≤ 1000000) : ok .add 4607182418800017408 (absw t) ∧ ok .mul 4472406533629990549 (fo .add 4607182418800017408 (absw t)) ∧ FL.Fin (tolw t) ∧
    rv (absw t) * (1 / 10000000000000) + 1 / 10000000000000 ≤ rv (tolw t) := by
  have hbig := big_le
  have hu := u53_eq
  have hep := eta_pos
  have hel := eta_le
  have hx0 := (absw_rv ht).1
  have hfx := absw_fin ht
  unfold tolw
  generalize absw t = x at *
  have v1 := v4607182418800017408
  have v9 := v4472406533629990549
  obtain ⟨o1, r1, -⟩ := fo_add f4607182418800017408 hfx (by grind) (by grind)
  have e1 := r1.err (1 + rv x) (by grind) (by grind)
  generalize fo .add 4607182418800017408 x = s at *
  rw [hu, v1] at e1
  obtain ⟨o2, r2, -, -⟩ := fo_mul f4472406533629990549 r1.fin (by rw [v9]; grind) (by rw [v9]; grind)
  have e2 := r2.err (1 + rv x) (by rw [v9]; grind) (by rw [v9]; grind)
  rw [hu, v9] at e2
  refine ⟨o1, o2, r2.fin, ?_⟩
  grind

theorem gray {t : Nat} (ht : FL.Fin t) (x3 : rv (absw t) ≤ 1000000) :
    lin_p3_to_xyzOK t t t ∧ lin_srgb_to_xyzOK t t t ∧
    (ok .sub (row 4602436902889991582 4598457463613748745 4596309550625894354 t t t) (row 4601100592117526705 4600113286708316951 4595670525981687698 t t t) ∧ FL.Fin (fo .sub (row 4602436902889991582 4598457463613748745 4596309550625894354 t t t) (row 4601100592117526705 4600113286708316951 4595670525981687698 t t t)) ∧ rv (fo .sub (row 4602436902889991582 4598457463613748745 4596309550625894354 t t t) (row 4601100592117526705 4600113286708316951 4595670525981687698 t t t)) ≤ rv (tolw t) ∧ - rv (fo .sub (row 4602436902889991582 4598457463613748745 4596309550625894354 t t t) (row 4601100592117526705 4600113286708316951 4595670525981687698 t t t)) ≤ rv (tolw t)) ∧
    (ok .sub (row 4597417698381910165 4604405846243637830 4590377644931452072 t t t) (row 4596829147871394358 4604616886335687447 4589866425216086747 t t t) ∧ FL.Fin (fo .sub (row 4597417698381910165 4604405846243637830 4590377644931452072 t t t) (row 4596829147871394358 4604616886335687447 4589866425216086747 t t t)) ∧ rv (fo .sub (row 4597417698381910165 4604405846243637830 4590377644931452072 t t t) (row 4596829147871394358 4604616886335687447 4589866425216086747 t t t)) ≤ rv (tolw t) ∧ - rv (fo .sub (row 4597417698381910165 4604405846243637830 4590377644931452072 t t t) (row 4596829147871394358 4604616886335687447 4589866425216086747 t t t)) ≤ rv (tolw t)) ∧
    (ok .sub (row 0 4586662344547128081 4607380326643424874 t t t) (row 4581228950558139524 4593253309717046303 4606736852038626910 t t t) ∧ FL.Fin (fo .sub (row 0 4586662344547128081 4607380326643424874 t t t) (row 4581228950558139524 4593253309717046303 4606736852038626910 t t t)) ∧ rv (fo .sub (row 0 4586662344547128081 4607380326643424874 t t t) (row 4581228950558139524 4593253309717046303 4606736852038626910 t t t)) ≤ rv (tolw t) ∧ - rv (fo .sub (row 0 4586662344547128081 4607380326643424874 t t t) (row 4581228950558139524 4593253309717046303 4606736852038626910 t t t)) ≤ rv (tolw t)) := by
  obtain ⟨-, -, -, htol⟩ := tol_ok ht x3
  obtain ⟨x0, x2, x1, -⟩ := absw_rv ht
  obtain ⟨p0, s0, k0, g0, l0, u0⟩ := gray_row (X := rv (absw t)) f4602436902889991582 f4598457463613748745 f4596309550625894354 f4601100592117526705 f4600113286708316951 f4595670525981687698 ht (by rw [v4602436902889991582]; decide +kernel) (by rw [v4598457463613748745]; decide +kernel) (by rw [v4596309550625894354]; decide +kernel) (by rw [v4601100592117526705]; decide +kernel) (by rw [v4600113286708316951]; decide +kernel) (by rw [v4595670525981687698]; decide +kernel) (by rw [v4602436902889991582, v4598457463613748745, v4596309550625894354, v4601100592117526705, v4600113286708316951, v4595670525981687698]; decide +kernel) (by grind) x2 x3
  obtain ⟨p1, s1, k1, g1, l1, u1⟩ := gray_row (X := rv (absw t)) f4597417698381910165 f4604405846243637830 f4590377644931452072 f4596829147871394358 f4604616886335687447 f4589866425216086747 ht (by rw [v4597417698381910165]; decide +kernel) (by rw [v4604405846243637830]; decide +kernel) (by rw [v4590377644931452072]; decide +kernel) (by rw [v4596829147871394358]; decide +kernel) (by rw [v4604616886335687447]; decide +kernel) (by rw [v4589866425216086747]; decide +kernel) (by rw [v4597417698381910165, v4604405846243637830, v4590377644931452072, v4596829147871394358, v4604616886335687447, v4589866425216086747]; decide +kernel) (by grind) x2 x3
  obtain ⟨p2, s2, k2, g2, l2, u2⟩ := gray_row (X := rv (absw t)) f0 f4586662344547128081 f4607380326643424874 f4581228950558139524 f4593253309717046303 f4606736852038626910 ht (by rw [v0]; decide +kernel) (by rw [v4586662344547128081]; decide +kernel) (by rw [v4607380326643424874]; decide +kernel) (by rw [v4581228950558139524]; decide +kernel) (by rw [v4593253309717046303]; decide +kernel) (by rw [v4606736852038626910]; decide +kernel) (by rw [v0, v4586662344547128081, v4607380326643424874, v4581228950558139524, v4593253309717046303, v4606736852038626910]; decide +kernel) (by grind) x2 x3
  exact ⟨⟨p0, p1, p2⟩, ⟨s0, s1, s2⟩, ⟨k0, g0, Rat.le_trans l0 htol, Rat.le_trans u0 htol⟩, ⟨k1, g1, Rat.le_trans l1 htol, Rat.le_trans u1 htol⟩, ⟨k2, g2, Rat.le_trans l2 htol, Rat.le_trans u2 htol⟩⟩
end Go.Proofs.Ytjmpbacgcclmlaa.F64
