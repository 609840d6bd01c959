/- Float operations on scaled values: A * 2^i. Plain numerics. -/
import Derived.Test.YtekideiinifffaaCb2
import Derived.Laws.FloatArith
namespace Go.Proofs.Ytekideiinifffaa.CB
open Go Go.RowKit Go.Proofs.Ytekideiinifffaa.FL Go.Proofs.Ytekideiinifffaa.PO
set_option linter.unusedVariables false
def V (w : Nat) (A : Rat) (i : Int) : Prop := w < 2 ^ 64 ∧ FL.Fin w ∧ rv w = A * p2 i
def ka : Rat := p2 (-150)
/-- An error: of an operation whose result is at most M. -/
def Er (e M : Rat) : Prop := -(M * u53 + ka) ≤ e ∧ e ≤ M * u53 + ka
theorem p2_inv (i : Int) : p2 i * p2 (-i) = 1 := by rw [← p2_add, show i + -i = 0 by omega, p2_zero]
theorem eta_ka (i : Int) (h : -900 ≤ i) : eta * p2 (-i) ≤ ka := by
  have : eta = p2 (-1075) := rfl
  rw [this, ← p2_add]
  exact p2_le (by omega)
/-- A rounded scaled value. -/
theorem rndV {A M : Rat} {z : Nat} (i : Int) (hi : -900 ≤ i) (h : Rnd (A * p2 i) z) (h1 : -M ≤ A) (h2 : A ≤ M) : ∃ e, V z (A + e) i ∧ Er e M := by
  have p := p2_pos i
  have pn := p2_pos (-i)
  have e0 := h.err (M * p2 i) (by have := Rat.mul_le_mul_of_nonneg_right h1 (Rat.le_of_lt p); grind) (Rat.mul_le_mul_of_nonneg_right h2 (Rat.le_of_lt p))
  have inv := p2_inv i
  have ek := eta_ka i hi
  refine ⟨(rv z - A * p2 i) * p2 (-i), ⟨h.lt, h.fin, ?_⟩, ?_, ?_⟩
  · generalize p2 i = X at *
    generalize p2 (-i) = Y at *
    have : (rv z - A * X) * Y * X = rv z - A * X := by
      have : (rv z - A * X) * Y * X = (rv z - A * X) * (X * Y) := by grind
      rw [this, inv]; grind
    grind
  · have a := Rat.mul_le_mul_of_nonneg_right (show -(M * p2 i * u53 + eta) ≤ rv z - A * p2 i by grind) (Rat.le_of_lt pn)
    have : -(M * p2 i * u53 + eta) * p2 (-i) = -(M * u53 * (p2 i * p2 (-i)) + eta * p2 (-i)) := by grind
    rw [this, inv] at a
    grind
  · have a := Rat.mul_le_mul_of_nonneg_right (show rv z - A * p2 i ≤ M * p2 i * u53 + eta by grind) (Rat.le_of_lt pn)
    have : (M * p2 i * u53 + eta) * p2 (-i) = M * u53 * (p2 i * p2 (-i)) + eta * p2 (-i) := by grind
    rw [this, inv] at a
    grind
theorem big_i {A M : Rat} (i : Int) (hi : i ≤ 900) (hM : M ≤ 1000) (h1 : -M ≤ A) (h2 : A ≤ M) : -p2 1023 ≤ A * p2 i ∧ A * p2 i ≤ p2 1023 := by
  have p := p2_pos i
  have a := p2_le (show i ≤ 900 by omega)
  have b : 1000 * p2 900 ≤ p2 1023 := by unfold p2; decide +kernel
  have c := Rat.mul_le_mul_of_nonneg_right (show A ≤ 1000 by grind) (Rat.le_of_lt p)
  have d := Rat.mul_le_mul_of_nonneg_right (show -1000 ≤ A by grind) (Rat.le_of_lt p)
  constructor <;> grind
theorem mulV {u v : Nat} {A B M : Rat} {i j k : Int} (hu : V u A i) (hv : V v B j) (hk : i + j = k) (hi : -900 ≤ k) (hj : k ≤ 900) (hM : M ≤ 1000) (h1 : -M ≤ A * B) (h2 : A * B ≤ M) :
    ∃ z e, floatBits .mul .f64 u v = some z ∧ V z (A * B + e) k ∧ Er e M := by
  have hv' : rv u * rv v = (A * B) * p2 k := by rw [hu.2.2, hv.2.2, ← hk, p2_add]; grind
  obtain ⟨b1, b2⟩ := big_i k hj hM h1 h2
  obtain ⟨z, hz, r, -, -⟩ := mul_rnd hu.2.1 hv.2.1 (by rw [hv']; exact b1) (by rw [hv']; exact b2)
  rw [hv'] at r
  obtain ⟨e, he, hr⟩ := rndV k hi r h1 h2
  exact ⟨z, e, hz, he, hr⟩
theorem addV {u v : Nat} {A B M : Rat} {i : Int} (hu : V u A i) (hv : V v B i) (hi : -900 ≤ i) (hj : i ≤ 900) (hM : M ≤ 1000) (h1 : -M ≤ A + B) (h2 : A + B ≤ M) :
    ∃ z e, floatBits .add .f64 u v = some z ∧ V z (A + B + e) i ∧ Er e M := by
  have hv' : rv u + rv v = (A + B) * p2 i := by rw [hu.2.2, hv.2.2]; grind
  obtain ⟨b1, b2⟩ := big_i i hj hM h1 h2
  obtain ⟨z, hz, r, -⟩ := add_rnd hu.2.1 hv.2.1 (by rw [hv']; exact b1) (by rw [hv']; exact b2)
  rw [hv'] at r
  obtain ⟨e, he, hr⟩ := rndV i hi r h1 h2
  exact ⟨z, e, hz, he, hr⟩
theorem subV {u v : Nat} {A B M : Rat} {i : Int} (hu : V u A i) (hv : V v B i) (hi : -900 ≤ i) (hj : i ≤ 900) (hM : M ≤ 1000) (h1 : -M ≤ A - B) (h2 : A - B ≤ M) :
    ∃ z e, floatBits .sub .f64 u v = some z ∧ V z (A - B + e) i ∧ Er e M := by
  have hv' : rv u - rv v = (A - B) * p2 i := by rw [hu.2.2, hv.2.2]; grind
  obtain ⟨b1, b2⟩ := big_i i hj hM h1 h2
  obtain ⟨z, hz, r, -⟩ := sub_rnd hu.2.1 hv.2.1 (by rw [hv']; exact b1) (by rw [hv']; exact b2)
  rw [hv'] at r
  obtain ⟨e, he, hr⟩ := rndV i hi r h1 h2
  exact ⟨z, e, hz, he, hr⟩
/-- A quotient: Q * B = A. -/
theorem divV {u v : Nat} {A B Q M : Rat} {i j k : Int} (hu : V u A i) (hv : V v B j) (hk : i - j = k) (hi : -900 ≤ k) (hj : k ≤ 900) (hM : M ≤ 1000) (hB : 0 < B) (hQ : Q * B = A) (h1 : -M ≤ Q) (h2 : Q ≤ M) :
    ∃ z e, floatBits .quo .f64 u v = some z ∧ V z (Q + e) k ∧ Er e M := by
  have pj := p2_pos j
  have hv0 : 0 < rv v := by rw [hv.2.2]; exact Rat.mul_pos hB pj
  have hne : rv v ≠ 0 := by grind
  have hv' : rv u / rv v = Q * p2 k := by
    have : rv u = (Q * p2 k) * rv v := by
      rw [hu.2.2, hv.2.2, ← hQ, show i = k + j by omega, p2_add]; grind
    rw [this, Rat.div_def, Rat.mul_assoc, Rat.mul_inv_cancel _ hne]; grind
  obtain ⟨b1, b2⟩ := big_i k hj hM h1 h2
  obtain ⟨z, hz, r, -⟩ := div_rnd hu.2.1 hv.2.1 hne (by rw [hv']; exact b1) (by rw [hv']; exact b2)
  rw [hv'] at r
  obtain ⟨e, he, hr⟩ := rndV k hi r h1 h2
  exact ⟨z, e, hz, he, hr⟩
/-- A small error. -/
def E15 : Rat := 1 / 1000000000000000
theorem er15 {e M : Rat} (h : Er e M) (hM : M ≤ 8) : -E15 ≤ e ∧ e ≤ E15 := by
  have u := u53_eq
  have k : ka ≤ 1 / 1000000000000000000000000000000 := by unfold ka p2; decide +kernel
  unfold Er at h
  unfold E15
  rw [u] at h
  constructor <;> grind
end Go.Proofs.Ytekideiinifffaa.CB
