/- Float operations with a rational value beside them and a bound on what they miss it by; Go's sine and cosine of a small rest. -/
import Derived.Test.YtnkpcjmmingkkaaDoorVal
import Derived.Test.YtnkpcjmmingkkaaDoorPm
namespace Go.Proofs.YtnkpcjmmingkkaaDoor.F64
open Go Go.RowKit Go.Proofs.YtnkpcjmmingkkaaDoor.FL
set_option linter.unusedVariables false
/-- Finite, near v, and v at most X. -/
structure Ap (x : Nat) (v X E : Rat) : Prop where
  fin : FL.Fin x
  lo : -X ≤ v
  hi : v ≤ X
  e1 : -E ≤ rv x - v
  e2 : rv x - v ≤ E
theorem Ap.of {x : Nat} {v X E : Rat} (f : FL.Fin x) (e : rv x = v) (h1 : -X ≤ v) (h2 : v ≤ X) (h3 : 0 ≤ E) : Ap x v X E := ⟨f, h1, h2, by grind, by grind⟩
theorem Ap.mul {x y : Nat} {v w X Y E F : Rat} (h : Ap x v X E) (k : Ap y w Y F) (Z G : Rat) (c1 : (X + E) * (Y + F) ≤ 1000) (c2 : X * Y ≤ Z) (c3 : (X + E) * F + Y * E + ((X + E) * (Y + F) / 9007199254740992 + 1 / 1000000000000000000000000000000) ≤ G) : Ap (fop .mul x y) (v * w) Z G := by
  have bx : -(X + E) ≤ rv x ∧ rv x ≤ X + E := by have := h.lo; have := h.hi; have := h.e1; have := h.e2; constructor <;> grind
  have bY : -(Y + F) ≤ rv y ∧ rv y ≤ Y + F := by have := k.lo; have := k.hi; have := k.e1; have := k.e2; constructor <;> grind
  have m := mul_abs bx.1 bx.2 bY.1 bY.2
  have r := fmul h.fin k.fin (by grind) (by grind)
  have e := r.err ((X + E) * (Y + F)) m.1 m.2
  rw [u53_eq] at e
  have el := eta_le
  have a := mul_abs bx.1 bx.2 k.e1 k.e2
  have b := mul_abs k.lo k.hi h.e1 h.e2
  have c := mul_abs h.lo h.hi k.lo k.hi
  have id : rv x * rv y - v * w = rv x * (rv y - w) + w * (rv x - v) := by grind
  generalize (X + E) * (Y + F) = P at *
  generalize rv x * (rv y - w) = A at *
  generalize w * (rv x - v) = B at *
  refine ⟨r.fin, by grind, by grind, by grind, by grind⟩
theorem Ap.add {x y : Nat} {v w X Y E F : Rat} (h : Ap x v X E) (k : Ap y w Y F) (Z G : Rat) (c1 : X + E + (Y + F) ≤ 1000) (c2 : X + Y ≤ Z) (c3 : E + F + ((X + E + (Y + F)) / 9007199254740992 + 1 / 1000000000000000000000000000000) ≤ G) : Ap (fop .add x y) (v + w) Z G := by
  obtain ⟨f1, a1, a2, a3, a4⟩ := h
  obtain ⟨f2, b1, b2, b3, b4⟩ := k
  have r := fadd f1 f2 (by grind) (by grind)
  have e := r.err (X + E + (Y + F)) (by grind) (by grind)
  rw [u53_eq] at e
  have el := eta_le
  exact ⟨r.fin, by grind, by grind, by grind, by grind⟩
theorem Ap.sub {x y : Nat} {v w X Y E F : Rat} (h : Ap x v X E) (k : Ap y w Y F) (Z G : Rat) (c1 : X + E + (Y + F) ≤ 1000) (c2 : X + Y ≤ Z) (c3 : E + F + ((X + E + (Y + F)) / 9007199254740992 + 1 / 1000000000000000000000000000000) ≤ G) : Ap (fop .sub x y) (v - w) Z G := by
  obtain ⟨f1, a1, a2, a3, a4⟩ := h
  obtain ⟨f2, b1, b2, b3, b4⟩ := k
  have r := fsub f1 f2 (by grind) (by grind)
  have e := r.err (X + E + (Y + F)) (by grind) (by grind)
  rw [u53_eq] at e
  have el := eta_le
  exact ⟨r.fin, by grind, by grind, by grind, by grind⟩
theorem Ap.tight {x : Nat} {v X Y E : Rat} (h : Ap x v X E) (h1 : -Y ≤ v) (h2 : v ≤ Y) : Ap x v Y E := ⟨h.fin, h1, h2, h.e1, h.e2⟩
/-- The six-term polynomial, in the order of reckoning. -/
theorem pol_ap {k0 k1 k2 k3 k4 k5 q : Nat} {v0 v1 v2 v3 v4 v5 z : Rat} (h0 : Ap k0 v0 (1 / 1000000000) 0) (h1 : Ap k1 v1 (1 / 10000000) 0) (h2 : Ap k2 v2 (1 / 100000) 0) (h3 : Ap k3 v3 (1 / 1000) 0) (h4 : Ap k4 v4 (1 / 100) 0) (h5 : Ap k5 v5 (17 / 100) 0) (hq : Ap q z (62 / 100) (1 / 10000000000000000)) :
    Ap (pol k0 k1 k2 k3 k4 k5 q) (v5 + z * (v4 + z * (v3 + z * (v2 + z * (v1 + z * v0))))) (1 / 5) (1 / 10000000000000000) := by
  have h := (((((((((h0.mul hq (1 / 1000000000) (1 / 10000000000000000000) (by decide +kernel) (by decide +kernel) (by decide +kernel)).add h1 (2 / 10000000) (1 / 1000000000000000000) (by decide +kernel) (by decide +kernel) (by decide +kernel)).mul hq (2 / 10000000) (2 / 1000000000000000000) (by decide +kernel) (by decide +kernel) (by decide +kernel)).add h2 (2 / 100000) (3 / 1000000000000000000) (by decide +kernel) (by decide +kernel) (by decide +kernel)).mul hq (2 / 100000) (4 / 1000000000000000000) (by decide +kernel) (by decide +kernel) (by decide +kernel)).add h3 (2 / 1000) (5 / 1000000000000000000) (by decide +kernel) (by decide +kernel) (by decide +kernel)).mul hq (2 / 1000) (6 / 1000000000000000000) (by decide +kernel) (by decide +kernel) (by decide +kernel)).add h4 (2 / 100) (1 / 100000000000000000) (by decide +kernel) (by decide +kernel) (by decide +kernel)).mul hq (2 / 100) (2 / 100000000000000000) (by decide +kernel) (by decide +kernel) (by decide +kernel)).add h5 (1 / 5) (1 / 10000000000000000) (by decide +kernel) (by decide +kernel) (by decide +kernel)
  unfold pol
  have e : ((((v0 * z + v1) * z + v2) * z + v3) * z + v4) * z + v5 = v5 + z * (v4 + z * (v3 + z * (v2 + z * (v1 + z * v0)))) := by grind
  rw [e] at h
  exact h
end Go.Proofs.YtnkpcjmmingkkaaDoor.F64
