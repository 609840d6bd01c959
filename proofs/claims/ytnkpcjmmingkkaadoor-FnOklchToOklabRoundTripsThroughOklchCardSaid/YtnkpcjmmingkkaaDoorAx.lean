/- Go's xatan: the float expression and the fraction. -/
import Derived.Test.YtnkpcjmmingkkaaDoorAp
namespace Go.Proofs.YtnkpcjmmingkkaaDoor.F64
open Go Go.RowKit Go.Proofs.YtnkpcjmmingkkaaDoor.FL
set_option linter.unusedVariables false
theorem fdiv {x y : Nat} (hx : FL.Fin x) (hy : FL.Fin y) (h0 : rv y ≠ 0) (b1 : -1000 ≤ rv x / rv y) (b2 : rv x / rv y ≤ 1000) : Rnd (rv x / rv y) (fop .quo x y) := by
  have big := big_le
  obtain ⟨z, hz, hr, -⟩ := div_rnd hx hy h0 (by grind) (by grind)
  rw [fop_some (op := .quo) hz]; exact hr
/-- A quotient p of x by y against a quotient q of v by w. -/
theorem quo_near {x y v w p q Z E F L : Rat} (hp : p * y = x) (hq : q * w = v) (q1 : -Z ≤ q) (q2 : q ≤ Z) (x1 : -E ≤ x - v) (x2 : x - v ≤ E) (y1 : -F ≤ y - w) (y2 : y - w ≤ F) (hL : 0 < L) (hy : L ≤ y) (G : Rat) (hG : E + Z * F ≤ G * L) : -G ≤ p - q ∧ p - q ≤ G := by
  have a := mul_abs q1 q2 y1 y2
  have id : (p - q) * y = (x - v) - q * (y - w) := by grind
  constructor
  · apply Classical.byContradiction
    intro hn
    have h1 := Rat.mul_nonneg (show 0 ≤ -G - (p - q) by grind) (show 0 ≤ y - L by grind)
    have h2 := Rat.mul_pos (show 0 < -G - (p - q) by grind) hL
    have h3 : 0 ≤ E + Z * F := by
      have := mul_abs (x := q) (d := y - w) q1 q2 y1 y2
      grind
    have h4 : 0 ≤ G := by
      apply Classical.byContradiction
      intro hg
      have := Rat.mul_pos (show 0 < -G by grind) hL
      grind
    have h5 := Rat.mul_nonneg h4 (show 0 ≤ y - L by grind)
    grind
  · apply Classical.byContradiction
    intro hn
    have h1 := Rat.mul_nonneg (show 0 ≤ (p - q) - G by grind) (show 0 ≤ y - L by grind)
    have h2 := Rat.mul_pos (show 0 < (p - q) - G by grind) hL
    have h3 : 0 ≤ E + Z * F := by
      have := mul_abs (x := q) (d := y - w) q1 q2 y1 y2
      grind
    have h4 : 0 ≤ G := by
      apply Classical.byContradiction
      intro hg
      have := Rat.mul_pos (show 0 < -G by grind) hL
      grind
    have h5 := Rat.mul_nonneg h4 (show 0 ≤ y - L by grind)
    grind
theorem axp0 : Ap 13829429103926125972 (-1970461881518437 / 2251799813685248) (219 / 250) 0 := .of (by unfold FL.Fin; decide) (by decide +kernel) (by decide +kernel) (by decide +kernel) (by decide +kernel)
theorem axp1 : Ap 13848613196940411002 (-2273971201753149 / 140737488355328) (81 / 5) 0 := .of (by unfold FL.Fin; decide) (by decide +kernel) (by decide +kernel) (by decide +kernel) (by decide +kernel)
theorem axp2 : Ap 13858350711815275123 (-5278258023629427 / 70368744177664) (751 / 10) 0 := .of (by unfold FL.Fin; decide) (by decide +kernel) (by decide +kernel) (by decide +kernel) (by decide +kernel)
theorem axp3 : Ap 13861719834326579749 (-8647380534934053 / 70368744177664) (123) 0 := .of (by unfold FL.Fin; decide) (by decide +kernel) (by decide +kernel) (by decide +kernel) (by decide +kernel)
theorem axp4 : Ap 13857635882265799822 (-2281714237077063 / 35184372088832) (649 / 10) 0 := .of (by unfold FL.Fin; decide) (by decide +kernel) (by decide +kernel) (by decide +kernel) (by decide +kernel)
theorem axq0 : Ap 4627690253511319612 (1749258957297679 / 70368744177664) (249 / 10) 0 := .of (by unfold FL.Fin; decide) (by decide +kernel) (by decide +kernel) (by decide +kernel) (by decide +kernel)
theorem axq1 : Ap 4640010388282866213 (5806371718625829 / 35184372088832) (166) 0 := .of (by unfold FL.Fin; decide) (by decide +kernel) (by decide +kernel) (by decide +kernel) (by decide +kernel)
theorem axq2 : Ap 4646322940342877755 (7615324151266875 / 17592186044416) (433) 0 := .of (by unfold FL.Fin; decide) (by decide +kernel) (by decide +kernel) (by decide +kernel) (by decide +kernel)
theorem axq3 : Ap 4647246694406179306 (4269539107284213 / 8796093022208) (486) 0 := .of (by unfold FL.Fin; decide) (by decide +kernel) (by decide +kernel) (by decide +kernel) (by decide +kernel)
theorem axq4 : Ap 4641049159275471596 (1711285677807803 / 8796093022208) (195) 0 := .of (by unfold FL.Fin; decide) (by decide +kernel) (by decide +kernel) (by decide +kernel) (by decide +kernel)
/-- The fraction of the square. -/
def xatQ (zz : Nat) : Nat := fop .quo (fop .mul zz (fop .add (fop .mul (fop .add (fop .mul (fop .add (fop .mul (fop .add (fop .mul 13829429103926125972 zz) 13848613196940411002) zz) 13858350711815275123) zz) 13861719834326579749) zz) 13857635882265799822)) (fop .add (fop .mul (fop .add (fop .mul (fop .add (fop .mul (fop .add (fop .mul (fop .add zz 4627690253511319612) zz) 4640010388282866213) zz) 4646322940342877755) zz) 4647246694406179306) zz) 4641049159275471596)
def xatanT (x : Nat) : Nat := fop .add (fop .mul x (xatQ (fop .mul x x))) x
theorem evPA (z : Rat) : PL.ev PL.PA z = ((((-1970461881518437 / 2251799813685248) * z + (-2273971201753149 / 140737488355328)) * z + (-5278258023629427 / 70368744177664)) * z + (-8647380534934053 / 70368744177664)) * z + (-2281714237077063 / 35184372088832) := by unfold PL.PA; simp only [PL.ev]; grind
theorem evQA (z : Rat) : PL.ev PL.QA z = ((((z + (1749258957297679 / 70368744177664)) * z + (5806371718625829 / 35184372088832)) * z + (7615324151266875 / 17592186044416)) * z + (4269539107284213 / 8796093022208)) * z + (1711285677807803 / 8796093022208) := by unfold PL.QA; simp only [PL.ev]; grind
theorem xat_ap {x : Nat} (f : FL.Fin x) (h1 : -(6601 / 10000) ≤ rv x) (h2 : rv x ≤ 6601 / 10000) : ∃ y, y * PL.ev PL.QA (rv x * rv x) = rv x * (PL.ev PL.QA (rv x * rv x) + rv x * rv x * PL.ev PL.PA (rv x * rv x)) ∧ Ap (xatanT x) y 1 (1 / 100000000000000) := by
  have hx : Ap x (rv x) (6601 / 10000) 0 := .of f rfl h1 h2 (by decide +kernel)
  have q := hx.mul hx (109 / 250) (121 / 2500000000000000000) (by decide +kernel) (by decide +kernel) (by decide +kernel)
  have n := q.mul (((((((((axp0).mul q (191 / 500) (849 / 10000000000000000000) (by decide +kernel) (by decide +kernel) (by decide +kernel)).add axp1 (83 / 5) (193 / 100000000000000000) (by decide +kernel) (by decide +kernel) (by decide +kernel)).mul q (181 / 25) (49 / 20000000000000000) (by decide +kernel) (by decide +kernel) (by decide +kernel)).add axp2 (412 / 5) (29 / 2500000000000000) (by decide +kernel) (by decide +kernel) (by decide +kernel)).mul q (36) (131 / 10000000000000000) (by decide +kernel) (by decide +kernel) (by decide +kernel)).add axp3 (159) (77 / 2500000000000000) (by decide +kernel) (by decide +kernel) (by decide +kernel)).mul q (347 / 5) (289 / 10000000000000000) (by decide +kernel) (by decide +kernel) (by decide +kernel)).add axp4 (135) (439 / 10000000000000000) (by decide +kernel) (by decide +kernel) (by decide +kernel)) (589 / 10) (323 / 10000000000000000) (by decide +kernel) (by decide +kernel) (by decide +kernel)
  have d := (((((((((q).add axq0 (127 / 5) (287 / 100000000000000000) (by decide +kernel) (by decide +kernel) (by decide +kernel)).mul q (111 / 10) (93 / 25000000000000000) (by decide +kernel) (by decide +kernel) (by decide +kernel)).add axq1 (178) (117 / 5000000000000000) (by decide +kernel) (by decide +kernel) (by decide +kernel)).mul q (777 / 10) (11 / 400000000000000) (by decide +kernel) (by decide +kernel) (by decide +kernel)).add axq2 (511) (421 / 5000000000000000) (by decide +kernel) (by decide +kernel) (by decide +kernel)).mul q (223) (431 / 5000000000000000) (by decide +kernel) (by decide +kernel) (by decide +kernel)).add axq3 (709) (33 / 200000000000000) (by decide +kernel) (by decide +kernel) (by decide +kernel)).mul q (310) (141 / 1000000000000000) (by decide +kernel) (by decide +kernel) (by decide +kernel)).add axq4 (505) (99 / 500000000000000) (by decide +kernel) (by decide +kernel) (by decide +kernel)
  rw [← evPA] at n
  rw [← evQA] at d
  have z0 : 0 ≤ rv x * rv x := by
    rcases Rat.le_total (a := 0) (b := rv x) with h | h
    · exact Rat.mul_nonneg h h
    · have := Rat.mul_nonneg (show 0 ≤ -rv x by grind) (show 0 ≤ -rv x by grind); grind
  have dq := PL.QA_ge z0
  unfold xatanT xatQ
  generalize (fop .add (fop .mul (fop .add (fop .mul (fop .add (fop .mul (fop .add (fop .mul (fop .add (fop .mul x x) 4627690253511319612) (fop .mul x x)) 4640010388282866213) (fop .mul x x)) 4646322940342877755) (fop .mul x x)) 4647246694406179306) (fop .mul x x)) 4641049159275471596) = wd at *
  generalize (fop .mul (fop .mul x x) (fop .add (fop .mul (fop .add (fop .mul (fop .add (fop .mul (fop .add (fop .mul 13829429103926125972 (fop .mul x x)) 13848613196940411002) (fop .mul x x)) 13858350711815275123) (fop .mul x x)) 13861719834326579749) (fop .mul x x)) 13857635882265799822)) = wn at *
  generalize PL.ev PL.QA (rv x * rv x) = B at *
  generalize PL.ev PL.PA (rv x * rv x) = A at *
  generalize rv x * rv x = z at *
  have bd0 : B ≠ 0 := by grind
  have wd0 : 1939 / 10 ≤ rv wd := by have := d.e1; grind
  have qv : (z * A) / B * B = z * A := Rat.div_mul_cancel bd0
  have hn1 := n.lo
  have hn2 := n.hi
  have q1 : -(38 / 125) ≤ (z * A) / B := by
    apply Classical.byContradiction
    intro hc
    have a := Rat.mul_nonneg (show 0 ≤ -(38 / 125) - (z * A) / B by grind) (show 0 ≤ B - 194 by grind)
    grind
  have q2 : (z * A) / B ≤ 38 / 125 := by
    apply Classical.byContradiction
    intro hc
    have a := Rat.mul_nonneg (show 0 ≤ (z * A) / B - (38 / 125) by grind) (show 0 ≤ B - 194 by grind)
    grind
  have wne : rv wd ≠ 0 := by grind
  have pv : rv wn / rv wd * rv wd = rv wn := Rat.div_mul_cancel wne
  have near := quo_near (x := rv wn) (y := rv wd) (v := z * A) (w := B) (Z := 38 / 125) (E := 323 / 10000000000000000) (F := 99 / 500000000000000) (L := 1939 / 10) pv qv q1 q2 n.e1 n.e2 d.e1 d.e2 (by decide +kernel) wd0 (239 / 500000000000000000) (by decide +kernel)
  have r := fdiv n.fin d.fin wne (by grind) (by grind)
  have e := r.err (61 / 200) (by grind) (by grind)
  rw [u53_eq] at e
  have el := eta_le
  have aq : Ap (fop .quo wn wd) ((z * A) / B) (38 / 125) (1 / 1953125000000000) := ⟨r.fin, q1, q2, by grind, by grind⟩
  have fin := (hx.mul aq (201 / 1000) (199 / 500000000000000000) (by decide +kernel) (by decide +kernel) (by decide +kernel)).add hx 1 (1 / 100000000000000) (by decide +kernel) (by decide +kernel) (by decide +kernel)
  exact ⟨rv x * ((z * A) / B) + rv x, by grind, fin⟩
end Go.Proofs.YtnkpcjmmingkkaaDoor.F64
