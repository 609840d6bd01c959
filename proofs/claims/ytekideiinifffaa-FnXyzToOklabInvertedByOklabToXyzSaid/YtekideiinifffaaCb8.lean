/- math.Cbrt: subnormal arguments. Plain numerics. -/
import Derived.Test.YtekideiinifffaaCb7
namespace Go.Proofs.Ytekideiinifffaa.CB
open Go Go.RowKit Go.Proofs.Ytekideiinifffaa.FL Go.Proofs.Ytekideiinifffaa.PO
set_option linter.unusedVariables false
def BS : Nat := 2990241250352824320
/-- The word of 2^54. -/
def w54 : Nat := 4850376798678024192
theorem w54_fin : FL.Fin w54 := by unfold FL.Fin w54; decide
theorem w54_rv : rv w54 = p2 54 := by
  have h := rung_val false 1076 4503599627370496 (by decide) (Or.inr (by decide)) (by decide)
  have e : Ieee.double.word false (1076 * 2 ^ 52 + 4503599627370496) = w54 := by decide
  rw [e] at h
  rw [h]
  unfold p2
  decide +kernel
theorem sub_rv {x : Nat} (h : x < 4503599627370496) : FL.Fin x ∧ rv x = (x : Rat) * p2 (-1074) := by
  refine ⟨by unfold FL.Fin; omega, ?_⟩
  have hr := rung_val false 0 x (by omega) (Or.inl rfl) (by omega)
  have e : Ieee.double.word false (0 * 2 ^ 52 + x) = x := by show 0 * 2 ^ 52 + x = x; omega
  rw [e] at hr
  rw [hr]
  simp only [sg, Bool.false_eq_true, if_false]
  have : ((0 : Nat) : Int) - 1074 = -1074 := by omega
  rw [this]
  grind
theorem up54 (x : Nat) (h0 : 0 < x) (h1 : x < 4503599627370496) : ∃ z, floatBits .mul .f64 w54 x = some z ∧ 4503599627370496 ≤ z ∧ z < 9218868437227405312 ∧ rv z = rv x * p2 54 := by
  obtain ⟨hf, hv⟩ := sub_rv h1
  have e : rv w54 * rv x = (x : Rat) * p2 (-1020) := by
    rw [w54_rv, hv, show (-1020 : Int) = 54 + -1074 by omega, p2_add]; grind
  have hp := p2_pos (-1020)
  have hx1 : (1 : Rat) ≤ (x : Rat) := by exact_mod_cast h0
  have hx2 : (x : Rat) ≤ 4503599627370496 := by exact_mod_cast Nat.le_of_lt h1
  have b1 := Rat.mul_le_mul_of_nonneg_right hx1 (Rat.le_of_lt hp)
  have b2 := Rat.mul_le_mul_of_nonneg_right hx2 (Rat.le_of_lt hp)
  have b3 : (4503599627370496 : Rat) * p2 (-1020) ≤ p2 1023 := by unfold p2; decide +kernel
  have b4 : 0 < p2 1023 := p2_pos _
  obtain ⟨z, hz, r, -⟩ := mul_rnd w54_fin hf (by rw [e]; grind) (by rw [e]; grind)
  rw [e] at r
  obtain ⟨t, ht, hvt⟩ := rep false x (-1020) (by omega) (by omega) (by grind)
  have ev : rv z = (x : Rat) * p2 (-1020) := r.exact ht (by rw [hvt]; simp only [sg, Bool.false_eq_true, if_false]; grind)
  have zf := r.fin
  have zl := r.lt
  obtain ⟨E, K, hK, hE, hw, he⟩ := fin_form zf
  have nK := mulp_nn K ((E : Int) - 1074)
  have hs : (z / 2 ^ 63 % 2 == 1) = false := by
    cases hh : (z / 2 ^ 63 % 2 == 1)
    · rfl
    · rw [hh] at he
      simp only [sg, if_true] at he
      grind
  have hs2 : ¬ z / 2 ^ 63 % 2 = 1 := by simpa using hs
  have z63 : z < 2 ^ 63 := by omega
  have zn : 4503599627370496 ≤ z := by
    apply Classical.byContradiction
    intro hc
    obtain ⟨-, hv2⟩ := sub_rv (x := z) (by omega)
    have h3 : (z : Rat) ≤ 4503599627370496 := by exact_mod_cast (show z ≤ 4503599627370496 by omega)
    have h4 := Rat.mul_le_mul_of_nonneg_right h3 (Rat.le_of_lt (p2_pos (-1074)))
    have h5 : (4503599627370496 : Rat) * p2 (-1074) < 1 * p2 (-1020) := by unfold p2; decide +kernel
    grind
  refine ⟨z, hz, zn, by unfold FL.Fin at zf; omega, ?_⟩
  rw [ev, hv, show (-1020 : Int) = -1074 + 54 by omega, p2_add]; grind
theorem down18 {t : Nat} (hf : FL.Fin t) (hl : t < 2 ^ 63) (h : BB ≤ t) : FL.Fin (t - 81064793292668928) ∧ rv (t - 81064793292668928) = rv t * p2 (-18) := by
  obtain ⟨E, K, hK, hE, hw, he⟩ := fin_form hf
  unfold BB at h
  have hmod : t % 2 ^ 63 = t := Nat.mod_eq_of_lt hl
  have hs : (t / 2 ^ 63 % 2 == 1) = false := by
    have : t / 2 ^ 63 = 0 := by omega
    rw [this]; rfl
  rw [hs] at he
  rw [hmod] at hw
  obtain ⟨D, hD⟩ : ∃ D, E = D + 18 := ⟨E - 18, by omega⟩
  subst hD
  have K52 : 2 ^ 52 ≤ K := by omega
  unfold FL.Fin at hf ⊢
  have hr := rung_val false D K (by omega) (Or.inr K52) (by omega)
  have e : Ieee.double.word false (D * 2 ^ 52 + K) = t - 81064793292668928 := by show D * 2 ^ 52 + K = _; omega
  rw [e] at hr
  refine ⟨by omega, ?_⟩
  rw [hr, he]
  simp only [sg, Bool.false_eq_true, if_false]
  rw [show ((D : Nat) : Int) - 1074 = (((D + 18 : Nat) : Int) - 1074) + -18 by omega, p2_add]; grind
theorem cbS (x : Nat) (h0 : 0 < x) (h1 : x < 4503599627370496) : ∃ z t, floatBits .mul .f64 w54 x = some z ∧ z < 2 ^ 63 ∧ z / 3 + BS < 2 ^ 63 ∧ CbW x (z / 3 + BS) t ∧ Near3 t x := by
  obtain ⟨z, hz, z1, z2, zv⟩ := up54 x h0 h1
  obtain ⟨q, a, y, R⟩ := rough z z1 z2
  have inv := p2_inv 54
  have hv : rv x = y * p2 (3 * (q - 18)) := by
    have : rv x = rv z * p2 (-54) := by rw [zv, Rat.mul_assoc, inv]; grind
    rw [this, R.vx, show 3 * (q - 18) = 3 * q + -54 by omega, p2_add]; grind
  have hx : V x y (3 * (q - 18)) := ⟨by omega, (sub_rv h1).1, hv⟩
  have hl := R.lt
  obtain ⟨f2, v2⟩ := down18 R.fin hl (by omega)
  have eb : z / 3 + BB - 81064793292668928 = z / 3 + BS := by unfold BB BS; omega
  rw [eb] at f2 v2
  have ht : V (z / 3 + BS) a (q - 18) := ⟨by omega, f2, by rw [v2, R.va, show q - 18 = q + -18 by omega, p2_add]; grind⟩
  have q1 := R.q1
  have q2 := R.q2
  obtain ⟨t, A, hw, hv, n1, n2⟩ := cbr hx ht R.y1 R.y8 R.a1 R.a2 R.lo R.up (by omega) (by omega)
  exact ⟨z, t, hz, by omega, by omega, hw, near_of hx hv n1 n2⟩
end Go.Proofs.Ytekideiinifffaa.CB
