/- Go's satan: its three roads as float expressions, and the angles that they give. -/
import Derived.Test.YtnkpcjmmingkkaaDoorAx
import Derived.Test.YtnkpcjmmingkkaaDoorAng
namespace Go.Proofs.YtnkpcjmmingkkaaDoor.F64
open Go Go.RowKit Go.Proofs.YtnkpcjmmingkkaaDoor.FL
set_option linter.unusedVariables false
def satB (x : Nat) : Nat := fop .add (fop .add 4605249457297304856 (xatanT (fop .quo (fop .sub x 4607182418800017408) (fop .add x 4607182418800017408)))) 4359948597267291143
def satS (s : Nat) : Nat := fop .add (fop .sub 4609753056924675352 (xatanT s)) 4364452196894661639
theorem apOne' : Ap 4607182418800017408 1 1 0 := .of fOne vOne (by decide +kernel) (by decide +kernel) (by decide +kernel)
theorem fP4 : FL.Fin 4605249457297304856 := by unfold FL.Fin; decide
theorem vP4 : -(1 / 10000000000000000) ≤ rv 4605249457297304856 - PL.p4 ∧ rv 4605249457297304856 - PL.p4 ≤ 1 / 10000000000000000 := by decide +kernel
theorem fP2 : FL.Fin 4609753056924675352 := by unfold FL.Fin; decide
theorem vP2 : -(1 / 1000000000000000) ≤ rv 4609753056924675352 - 2 * PL.p4 ∧ rv 4609753056924675352 - 2 * PL.p4 ≤ 1 / 1000000000000000 := by decide +kernel
theorem fM5 : FL.Fin 4359948597267291143 := by unfold FL.Fin; decide
theorem vM5 : -(1 / 10000000000000000) ≤ rv 4359948597267291143 - 0 ∧ rv 4359948597267291143 - 0 ≤ 1 / 10000000000000000 := by decide +kernel
theorem fM6 : FL.Fin 4364452196894661639 := by unfold FL.Fin; decide
theorem vM6 : -(1 / 10000000000000000) ≤ rv 4364452196894661639 - 0 ∧ rv 4364452196894661639 - 0 ≤ 1 / 10000000000000000 := by decide +kernel
theorem apP4 : Ap 4605249457297304856 PL.p4 1 (1 / 10000000000000000) := ⟨fP4, by decide +kernel, by decide +kernel, vP4.1, vP4.2⟩
theorem apP2 : Ap 4609753056924675352 (2 * PL.p4) 2 (1 / 1000000000000000) := ⟨fP2, by decide +kernel, by decide +kernel, vP2.1, vP2.2⟩
theorem apM5 : Ap 4359948597267291143 0 0 (1 / 10000000000000000) := ⟨fM5, by decide +kernel, by decide +kernel, vM5.1, vM5.2⟩
theorem apM6 : Ap 4364452196894661639 0 0 (1 / 10000000000000000) := ⟨fM6, by decide +kernel, by decide +kernel, vM6.1, vM6.2⟩
theorem satA_ang {a b : Rat} {x : Nat} (ha : 0 ≤ a) (hb : 0 ≤ b) (f : FL.Fin x) (h0 : 0 ≤ rv x) (h1 : rv x ≤ 6601 / 10000) (r1 : -((a + b) / 100000000000000) ≤ a * rv x - b) (r2 : a * rv x - b ≤ (a + b) / 100000000000000) : FL.Fin (xatanT x) ∧ PL.Ang a b (rv (xatanT x)) := by
  obtain ⟨y, hy, h⟩ := xat_ap f (by grind) h1
  exact ⟨h.fin, PL.ang_small ha hb h0 h1 hy r1 r2 (by have := h.e1; grind) (by have := h.e2; grind)⟩
theorem satS_ang {a b : Rat} {s : Nat} (ha : 0 ≤ a) (hb : 0 ≤ b) (f : FL.Fin s) (h0 : 0 ≤ rv s) (h1 : rv s ≤ 6601 / 10000) (r1 : -((a + b) / 100000000000000) ≤ b * rv s - a) (r2 : b * rv s - a ≤ (a + b) / 100000000000000) : FL.Fin (satS s) ∧ PL.Ang a b (rv (satS s)) := by
  obtain ⟨y, hy, h⟩ := xat_ap f (by grind) h1
  have t := (apP2.sub h 3 (2 / 100000000000000) (by decide +kernel) (by decide +kernel) (by decide +kernel)).add apM6 3 (3 / 100000000000000) (by decide +kernel) (by decide +kernel) (by decide +kernel)
  have e := PL.ang_small (a := b) (b := a) (q := 2 * PL.p4 - rv (satS s)) hb ha h0 h1 hy (by rw [Rat.add_comm b a]; exact r1) (by rw [Rat.add_comm b a]; exact r2) (by have := t.e2; unfold satS; grind) (by have := t.e1; unfold satS; grind)
  have e2 := e.swap
  rw [show 2 * PL.p4 - (2 * PL.p4 - rv (satS s)) = rv (satS s) by grind] at e2
  exact ⟨t.fin, e2⟩
theorem PL_near {p x y u0 w : Rat} (hp : p * y = x) (hu : u0 * (w + 1) = w - 1) (u1 : -(22 / 100) ≤ u0) (u2 : u0 ≤ 4153 / 10000) (x1 : -(1 / 1000000000000000) ≤ x - (w - 1)) (x2 : x - (w - 1) ≤ 1 / 1000000000000000) (y1 : -(1 / 1000000000000000) ≤ y - (w + 1)) (y2 : y - (w + 1) ≤ 1 / 1000000000000000) (hy : 16 / 10 ≤ y) : -(1 / 1000000000000000) ≤ p - u0 ∧ p - u0 ≤ 1 / 1000000000000000 :=
  quo_near (Z := 1 / 2) (E := 1 / 1000000000000000) (F := 1 / 1000000000000000) (L := 16 / 10) hp hu (by grind) (by grind) x1 x2 y1 y2 (by decide +kernel) hy (1 / 1000000000000000) (by decide +kernel)
theorem satB_ang {a b : Rat} {x : Nat} (ha : 0 ≤ a) (hb : 0 ≤ b) (f : FL.Fin x) (h0 : 65 / 100 ≤ rv x) (h1 : rv x ≤ 242 / 100) (r1 : -((a + b) / 1000000000000000) ≤ a * rv x - b) (r2 : a * rv x - b ≤ (a + b) / 1000000000000000) : FL.Fin (satB x) ∧ PL.Ang a b (rv (satB x)) := by
  have hx : Ap x (rv x) (242 / 100) 0 := .of f rfl (by grind) h1 (by decide +kernel)
  have n := hx.sub apOne' (35 / 10) (1 / 1000000000000000) (by decide +kernel) (by decide +kernel) (by decide +kernel)
  have d := hx.add apOne' (35 / 10) (1 / 1000000000000000) (by decide +kernel) (by decide +kernel) (by decide +kernel)
  unfold satB
  generalize fop .sub x 4607182418800017408 = wn at *
  generalize fop .add x 4607182418800017408 = wd at *
  obtain ⟨u0, hu0⟩ : ∃ u0, (rv x - 1) / (rv x + 1) = u0 := ⟨_, rfl⟩
  have x1 : rv x + 1 ≠ 0 := by grind
  have hu : u0 * (rv x + 1) = rv x - 1 := by rw [← hu0]; exact Rat.div_mul_cancel x1
  have u1 : -(22 / 100) ≤ u0 := by
    apply Classical.byContradiction
    intro hc
    have := Rat.mul_pos (show 0 < -(22 / 100) - u0 by grind) (show 0 < rv x + 1 by grind)
    grind
  have u2 : u0 ≤ 4153 / 10000 := by
    apply Classical.byContradiction
    intro hc
    have := Rat.mul_pos (show 0 < u0 - 4153 / 10000 by grind) (show 0 < rv x + 1 by grind)
    grind
  have wd0 : 16 / 10 ≤ rv wd := by have := d.e1; grind
  have wne : rv wd ≠ 0 := by grind
  have pv : rv wn / rv wd * rv wd = rv wn := Rat.div_mul_cancel wne
  have near := PL_near pv hu u1 u2 n.e1 n.e2 d.e1 d.e2 wd0
  have r := fdiv n.fin d.fin wne (by grind) (by grind)
  have e := r.err 1 (by grind) (by grind)
  rw [u53_eq] at e
  have el := eta_le
  generalize fop .quo wn wd = u at *
  have ue : -(2 / 1000000000000000) ≤ rv u - u0 ∧ rv u - u0 ≤ 2 / 1000000000000000 := by constructor <;> grind
  obtain ⟨v, hv, h⟩ := xat_ap r.fin (by grind) (by grind)
  have t := (apP4.add h 2 (2 / 100000000000000) (by decide +kernel) (by decide +kernel) (by decide +kernel)).add apM5 2 (3 / 100000000000000) (by decide +kernel) (by decide +kernel) (by decide +kernel)
  refine ⟨t.fin, ?_⟩
  have k1 := mul_abs (x := a + b) (d := rv u - u0) (X := a + b) (E := 2 / 1000000000000000) (by grind) (by grind) ue.1 ue.2
  have k2 := mul_abs (x := a * rv x - b) (d := 1 - u0) (X := (a + b) / 1000000000000000) (E := 13 / 10) r1 r2 (by grind) (by grind)
  have id : (a + b) * rv u - (b - a) = (a + b) * (rv u - u0) + (a * rv x - b) * (1 - u0) := by
    have : a * (u0 * (rv x + 1)) = a * (rv x - 1) := by rw [hu]
    grind
  exact PL.ang_mid ha hb (by grind) (by grind) hv (by rw [id]; grind) (by rw [id]; grind) (by have := t.e1; grind) (by have := t.e2; grind)
end Go.Proofs.YtnkpcjmmingkkaaDoor.F64
