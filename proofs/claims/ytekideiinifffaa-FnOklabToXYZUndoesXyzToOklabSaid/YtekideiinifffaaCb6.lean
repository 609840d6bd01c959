/- math.Cbrt: all its roundings, put together. Plain numerics. -/
import Derived.Test.YtekideiinifffaaCb5
namespace Go.Proofs.Ytekideiinifffaa.CB
open Go Go.RowKit Go.Proofs.Ytekideiinifffaa.FL Go.Proofs.Ytekideiinifffaa.PO
set_option linter.unusedVariables false
/-- The word with its lower thirty bits cleared, and the next one up. -/
def chop (t : Nat) : Nat := t - t % 1073741824 + 1073741824
theorem up_word (E K k : Nat) (hK : 4503599627370496 ≤ K) (hK2 : K < 9007199254740992) (hk : k ≤ 1073741824) (hE : E ≤ 2000) :
    FL.Fin (E * 4503599627370496 + K + k) ∧ E * 4503599627370496 + K + k < 2 ^ 63 ∧ (K : Rat) * p2 ((E : Int) - 1074) ≤ rv (E * 4503599627370496 + K + k) ∧
    rv (E * 4503599627370496 + K + k) ≤ (K : Rat) * p2 ((E : Int) - 1074) * (1 + 1 / 2000000) := by
  have p := p2_pos ((E : Int) - 1074)
  have hKr : (4503599627370496 : Rat) ≤ (K : Rat) := by exact_mod_cast hK
  have hKr2 : (K : Rat) ≤ 9007199254740992 := by exact_mod_cast Nat.le_of_lt hK2
  have hkr : (k : Rat) ≤ 1073741824 := by exact_mod_cast hk
  have hk0 : (0 : Rat) ≤ (k : Rat) := natCast_nn k
  refine ⟨by unfold FL.Fin; omega, by omega, ?_⟩
  by_cases hc : K + k < 9007199254740992
  · have hrv := rung_val false E (K + k) (by omega) (by omega) (by omega)
    have hw : Ieee.double.word false (E * 2 ^ 52 + (K + k)) = E * 4503599627370496 + K + k := by show E * 2 ^ 52 + (K + k) = _; omega
    rw [hw] at hrv
    rw [hrv, Rat.natCast_add]
    simp only [sg, Bool.false_eq_true, if_false]
    have a := Rat.mul_nonneg hk0 (Rat.le_of_lt p)
    have b := Rat.mul_nonneg (show 0 ≤ (K : Rat) * (1 / 2000000) - k by grind) (Rat.le_of_lt p)
    constructor <;> grind
  · obtain ⟨J, hJ⟩ : ∃ J, K + k = 4503599627370496 + J := ⟨K + k - 4503599627370496, by omega⟩
    have hrv := rung_val false (E + 1) J (by omega) (by omega) (by omega)
    have hw : Ieee.double.word false ((E + 1) * 2 ^ 52 + J) = E * 4503599627370496 + K + k := by show (E + 1) * 2 ^ 52 + J = _; omega
    rw [hw] at hrv
    have hp : p2 (((E + 1 : Nat) : Int) - 1074) = 2 * p2 ((E : Int) - 1074) := by
      rw [show ((E + 1 : Nat) : Int) - 1074 = 1 + ((E : Int) - 1074) by omega, p2_add, p2_one]
    have hJr : (J : Rat) = K + k - 4503599627370496 := by
      have : (K : Rat) + k = 4503599627370496 + J := by exact_mod_cast hJ
      grind
    have hcr : (9007199254740992 : Rat) ≤ K + k := by exact_mod_cast (show 9007199254740992 ≤ K + k by omega)
    rw [hrv, hp, hJr]
    simp only [sg, Bool.false_eq_true, if_false]
    have a := Rat.mul_nonneg (show 0 ≤ 2 * ((K : Rat) + k - 4503599627370496) - K by grind) (Rat.le_of_lt p)
    have b := Rat.mul_nonneg (show 0 ≤ (K : Rat) * (1 + 1 / 2000000) - 2 * ((K : Rat) + k - 4503599627370496) by grind) (Rat.le_of_lt p)
    constructor <;> grind
theorem chopV {t : Nat} {A : Rat} {q : Int} (h : V t A q) (a1 : 9 / 10 ≤ A) (a2 : A ≤ 3) (q1 : -400 ≤ q) (q2 : q ≤ 341) :
    t < 2 ^ 63 ∧ chop t < 2 ^ 63 ∧ ∃ A', V (chop t) A' q ∧ A ≤ A' ∧ A' ≤ A * (1 + 1 / 2000000) := by
  obtain ⟨hl, hf, hv⟩ := h
  have pq := p2_pos q
  obtain ⟨E, K, hK, hE, hw, he⟩ := fin_form hf
  have hvp : 9 / 10 * p2 q ≤ rv t := by rw [hv]; exact Rat.mul_le_mul_of_nonneg_right a1 (Rat.le_of_lt pq)
  have hvu : rv t ≤ 3 * p2 q := by rw [hv]; exact Rat.mul_le_mul_of_nonneg_right a2 (Rat.le_of_lt pq)
  have pE := p2_pos ((E : Int) - 1074)
  have nK := mulp_nn K ((E : Int) - 1074)
  have hs : (t / 2 ^ 63 % 2 == 1) = false := by
    cases hh : (t / 2 ^ 63 % 2 == 1)
    · rfl
    · rw [hh] at he
      simp only [sg, if_true] at he
      grind
  rw [hs] at he
  have hs2 : ¬ t / 2 ^ 63 % 2 = 1 := by simpa using hs
  have ht : t < 2 ^ 63 := by omega
  have he2 : rv t = K * p2 ((E : Int) - 1074) := by rw [he]; simp only [sg, Bool.false_eq_true, if_false]; grind
  clear he hs hs2
  have hq := p2_le (show (-400 : Int) ≤ q by omega)
  have hq3 := p2_le (show q ≤ 341 by omega)
  have hK52 : 4503599627370496 ≤ K := by
    apply Classical.byContradiction
    intro hc
    have hE0 : E = 0 := by omega
    subst hE0
    have h1 : (K : Rat) ≤ 4503599627370496 := by exact_mod_cast (show K ≤ 4503599627370496 by omega)
    have h2 := Rat.mul_le_mul_of_nonneg_right h1 (Rat.le_of_lt pE)
    have h3 : (4503599627370496 : Rat) * p2 (((0 : Nat) : Int) - 1074) ≤ 1 / 2 * p2 (-400) := by unfold p2; decide +kernel
    have h4 := p2_pos (-400)
    grind
  have hE2 : E ≤ 1500 := by
    apply Classical.byContradiction
    intro hc
    have h1 : (4503599627370496 : Rat) ≤ (K : Rat) := by exact_mod_cast hK52
    have h2 := Rat.mul_le_mul_of_nonneg_right h1 (Rat.le_of_lt pE)
    have h3 := p2_le (show (426 : Int) ≤ (E : Int) - 1074 by omega)
    have h4 : 3 * p2 341 ≤ p2 426 := by unfold p2; decide +kernel
    grind
  have htw : t = E * 4503599627370496 + K := by omega
  obtain ⟨k, hk⟩ : ∃ k, chop t = t + k ∧ k ≤ 1073741824 := ⟨1073741824 - t % 1073741824, by unfold chop; omega, by omega⟩
  obtain ⟨u1, u2, u3, u4⟩ := up_word E K k hK52 (by omega) hk.2 (by omega)
  rw [← htw, ← hk.1, ← he2] at u3
  rw [← htw, ← hk.1, ← he2] at u4
  rw [← htw, ← hk.1] at u1 u2
  have inv := p2_inv q
  have pn := p2_pos (-q)
  refine ⟨ht, u2, rv (chop t) * p2 (-q), ⟨by omega, u1, ?_⟩, ?_, ?_⟩
  · rw [Rat.mul_assoc, Rat.mul_comm (p2 (-q)), inv]; grind
  · have a := Rat.mul_le_mul_of_nonneg_right u3 (Rat.le_of_lt pn)
    rw [hv, Rat.mul_assoc, inv] at a
    grind
  · have a := Rat.mul_le_mul_of_nonneg_right u4 (Rat.le_of_lt pn)
    rw [hv] at a
    have e : A * p2 q * (1 + 1 / 2000000) * p2 (-q) = A * (1 + 1 / 2000000) * (p2 q * p2 (-q)) := by grind
    rw [e, inv] at a
    grind
/-- The words on the way. -/
def CbW (x t0 t3 : Nat) : Prop := ∃ m1 r1 m2 s d e1 e2 f g t1 s2 r2 w n m k p : Nat,
    floatBits .mul .f64 t0 t0 = some m1 ∧ floatBits .quo .f64 m1 x = some r1 ∧ floatBits .mul .f64 r1 t0 = some m2 ∧ floatBits .add .f64 wC m2 = some s ∧ floatBits .quo .f64 wD s = some d ∧ floatBits .add .f64 s wE = some e1 ∧
    floatBits .add .f64 e1 d = some e2 ∧ floatBits .quo .f64 wF e2 = some f ∧ floatBits .add .f64 wG f = some g ∧ floatBits .mul .f64 t0 g = some t1 ∧ t1 < 2 ^ 63 ∧ chop t1 < 2 ^ 63 ∧
    floatBits .mul .f64 (chop t1) (chop t1) = some s2 ∧ floatBits .quo .f64 x s2 = some r2 ∧ floatBits .add .f64 (chop t1) (chop t1) = some w ∧ floatBits .sub .f64 r2 (chop t1) = some n ∧ floatBits .add .f64 w r2 = some m ∧
    floatBits .quo .f64 n m = some k ∧ floatBits .mul .f64 (chop t1) k = some p ∧ floatBits .add .f64 (chop t1) p = some t3
theorem cV (w : Nat) (c : Rat) (hl : w < 2 ^ 64) (hf : FL.Fin w) (h : rv w = c) : V w c 0 := ⟨hl, hf, by rw [p2_zero, h]; grind⟩
end Go.Proofs.Ytekideiinifffaa.CB
