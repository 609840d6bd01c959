/- Go's sine and cosine of a small rest, as near as they come. -/
import Derived.Test.YtnkpcjmmingkkaaDoorAp
namespace Go.Proofs.YtnkpcjmmingkkaaDoor.F64
open Go Go.RowKit Go.Proofs.YtnkpcjmmingkkaaDoor.FL
set_option linter.unusedVariables false
theorem aps0 : Ap s0 (6149556183080141 / 38685626227668133590597632) (1 / 1000000000) 0 := .of (by unfold FL.Fin s0; decide) (by decide +kernel) (by decide +kernel) (by decide +kernel) (by decide +kernel)
theorem aps1 : Ap s1 (-7571123942793053 / 302231454903657293676544) (1 / 10000000) 0 := .of (by unfold FL.Fin s1; decide) (by decide +kernel) (by decide +kernel) (by decide +kernel) (by decide +kernel)
theorem aps2 : Ap s2 (6506786710177953 / 2361183241434822606848) (1 / 100000) 0 := .of (by unfold FL.Fin s2; decide) (by decide +kernel) (by decide +kernel) (by decide +kernel) (by decide +kernel)
theorem aps3 : Ap s3 (-7320136532877059 / 36893488147419103232) (1 / 1000) 0 := .of (by unfold FL.Fin s3; decide) (by decide +kernel) (by decide +kernel) (by decide +kernel) (by decide +kernel)
theorem aps4 : Ap s4 (300239975157629 / 36028797018963968) (1 / 100) 0 := .of (by unfold FL.Fin s4; decide) (by decide +kernel) (by decide +kernel) (by decide +kernel) (by decide +kernel)
theorem aps5 : Ap s5 (-750599937895081 / 4503599627370496) (17 / 100) 0 := .of (by unfold FL.Fin s5; decide) (by decide +kernel) (by decide +kernel) (by decide +kernel) (by decide +kernel)
theorem apc0 : Ap c0 (-7030593573755547 / 618970019642690137449562112) (1 / 1000000000) 0 := .of (by unfold FL.Fin c0; decide) (by decide +kernel) (by decide +kernel) (by decide +kernel) (by decide +kernel)
theorem apc1 : Ap c1 (5047434750082821 / 2417851639229258349412352) (1 / 10000000) 0 := .of (by unfold FL.Fin c1; decide) (by decide +kernel) (by decide +kernel) (by decide +kernel) (by decide +kernel)
theorem apc2 : Ap c2 (-2602714736764387 / 9444732965739290427392) (1 / 100000) 0 := .of (by unfold FL.Fin c2; decide) (by decide +kernel) (by decide +kernel) (by decide +kernel) (by decide +kernel)
theorem apc3 : Ap c3 (7320136533427445 / 295147905179352825856) (1 / 1000) 0 := .of (by unfold FL.Fin c3; decide) (by decide +kernel) (by decide +kernel) (by decide +kernel) (by decide +kernel)
theorem apc4 : Ap c4 (-6405119470030737 / 4611686018427387904) (1 / 100) 0 := .of (by unfold FL.Fin c4; decide) (by decide +kernel) (by decide +kernel) (by decide +kernel) (by decide +kernel)
theorem apc5 : Ap c5 (6004799503160651 / 144115188075855872) (17 / 100) 0 := .of (by unfold FL.Fin c5; decide) (by decide +kernel) (by decide +kernel) (by decide +kernel) (by decide +kernel)
theorem evSP (x : Rat) : PL.ev PL.SP x = -750599937895081 / 4503599627370496 + x * (300239975157629 / 36028797018963968 + x * (-7320136532877059 / 36893488147419103232 + x * (6506786710177953 / 2361183241434822606848 + x * (-7571123942793053 / 302231454903657293676544 + x * (6149556183080141 / 38685626227668133590597632))))) := by unfold PL.SP; simp only [PL.ev]; grind
theorem evCP (x : Rat) : PL.ev PL.CP x = 6004799503160651 / 144115188075855872 + x * (-6405119470030737 / 4611686018427387904 + x * (7320136533427445 / 295147905179352825856 + x * (-2602714736764387 / 9444732965739290427392 + x * (5047434750082821 / 2417851639229258349412352 + x * (-7030593573755547 / 618970019642690137449562112))))) := by unfold PL.CP; simp only [PL.ev]; grind
theorem ap_self {z : Nat} (f : FL.Fin z) (h1 : -(787 / 1000) ≤ rv z) (h2 : rv z ≤ 787 / 1000) : Ap z (rv z) (787 / 1000) 0 := .of f rfl h1 h2 (by decide +kernel)
theorem sinT_ap {z : Nat} (f : FL.Fin z) (h1 : -(787 / 1000) ≤ rv z) (h2 : rv z ≤ 787 / 1000) : Ap (sinT z) (PL.Sv (rv z)) 1 (1 / 1000000000000000) := by
  have hz := ap_self f h1 h2
  have q := hz.mul hz (62 / 100) (1 / 10000000000000000) (by decide +kernel) (by decide +kernel) (by decide +kernel)
  have p := pol_ap aps0 aps1 aps2 aps3 aps4 aps5 q
  have t := ((hz.mul q (1 / 2) (2 / 10000000000000000) (by decide +kernel) (by decide +kernel) (by decide +kernel)).mul p (1 / 10) (2 / 10000000000000000) (by decide +kernel) (by decide +kernel) (by decide +kernel))
  have a := hz.add t 1 (1 / 1000000000000000) (by decide +kernel) (by decide +kernel) (by decide +kernel)
  rw [← evSP] at a
  exact a
theorem apHalf : Ap 4602678819172646912 (1 / 2) (1 / 2) 0 := .of fHalf vHalf (by decide +kernel) (by decide +kernel) (by decide +kernel)
theorem apOne : Ap 4607182418800017408 1 1 0 := .of fOne vOne (by decide +kernel) (by decide +kernel) (by decide +kernel)
theorem cosT_ap {z : Nat} (f : FL.Fin z) (h1 : -(787 / 1000) ≤ rv z) (h2 : rv z ≤ 787 / 1000) : Ap (cosT z) (PL.Cv (rv z)) (3 / 2) (1 / 1000000000000000) := by
  have hz := ap_self f h1 h2
  have q := hz.mul hz (62 / 100) (1 / 10000000000000000) (by decide +kernel) (by decide +kernel) (by decide +kernel)
  have p := pol_ap apc0 apc1 apc2 apc3 apc4 apc5 q
  have h := apOne.sub (apHalf.mul q (31 / 100) (1 / 10000000000000000) (by decide +kernel) (by decide +kernel) (by decide +kernel)) (131 / 100) (3 / 10000000000000000) (by decide +kernel) (by decide +kernel) (by decide +kernel)
  have t := ((q.mul q (39 / 100) (2 / 10000000000000000) (by decide +kernel) (by decide +kernel) (by decide +kernel)).mul p (8 / 100) (2 / 10000000000000000) (by decide +kernel) (by decide +kernel) (by decide +kernel))
  have a := h.add t (3 / 2) (1 / 1000000000000000) (by decide +kernel) (by decide +kernel) (by decide +kernel)
  rw [← evCP] at a
  exact a
end Go.Proofs.YtnkpcjmmingkkaaDoor.F64
