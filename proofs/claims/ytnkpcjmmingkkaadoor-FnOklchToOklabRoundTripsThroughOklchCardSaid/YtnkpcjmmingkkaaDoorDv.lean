/- Division that outgrows the format. -/
import Derived.Test.YtnkpcjmmingkkaaDoorFloat
namespace Go.Proofs.YtnkpcjmmingkkaaDoor.FL
open Go Ieee
set_option linter.unusedVariables false
theorem div_big {x y : Nat} (hx : Fin x) (hy : Fin y) (hy0 : rv y ≠ 0) (h : p2 1023 < rv x / rv y ∨ rv x / rv y < -p2 1023) :
    ∃ z, double.div x y = some z ∧ z < 2 ^ 64 ∧ 2044 * 2 ^ 52 ≤ z % 2 ^ 63 ∧ z % 2 ^ 63 ≤ 2047 * 2 ^ 52 ∧ (z / 2 ^ 63 % 2 == 1) = decide (rv x / rv y < 0) := by
  obtain ⟨m, i, ex⟩ := read_fin hx
  obtain ⟨n, j, ey⟩ := read_fin hy
  generalize (x / 2 ^ 63 % 2 == 1) = s at *
  generalize (y / 2 ^ 63 % 2 == 1) = t at *
  have hn : n ≠ 0 := by
    intro h; apply hy0; rw [rv_read ey, h]; simp
  have hnp : (0 : Rat) < n := by exact_mod_cast Nat.pos_of_ne_zero hn
  have pj := p2_pos j
  have hval : rv x / rv y = sg (s ^^ t) * ((m * p2 i) / (n * p2 j)) := by
    rw [rv_read ex, rv_read ey]
    have e1 : (1 : Rat) / (-1) = -1 := by decide +kernel
    have hp : (n : Rat) * p2 j ≠ 0 := by
      have := Rat.mul_pos hnp pj; grind
    cases s <;> cases t <;> simp [sg] <;> grind
  generalize hmore : 54 + n.log2 - m.log2 = more
  have hdiv : double.div x y = some (double.nearest (s ^^ t) (2 * ((m <<< more) / n) + ((m <<< more) % n != 0).toNat) (i - j - more - 1)) := by
    unfold Format.div
    rw [ex, ey]
    unfold Datum.quotient
    simp only [if_neg hn, fb]
    rw [show 52 + 2 = 54 by rfl, hmore]
    rfl
  refine ⟨_, hdiv, ?_⟩
  rw [hval] at h ⊢
  generalize hv : ((m : Rat) * p2 i) / (n * p2 j) = v at *
  have hv0 : 0 ≤ v := by
    rw [← hv, Rat.div_def]
    exact Rat.mul_nonneg (mulp_nn _ _) (Rat.le_of_lt (Rat.inv_pos.2 (Rat.mul_pos hnp pj)))
  have hvge : p2 1023 < v := by
    have := p2_pos 1023
    rcases sg_pm (s ^^ t) with hs | hs <;> rw [hs] at h <;> grind
  have hsg : (s ^^ t) = decide (sg (s ^^ t) * v < 0) := by
    have := p2_pos 1023
    cases hst : (s ^^ t)
    · have : ¬ sg false * v < 0 := by simp only [sg, Bool.false_eq_true, if_false]; grind
      simp [this]
    · have : sg true * v < 0 := by simp only [sg, if_true]; grind
      simp [this]
  rw [← hsg]
  by_cases hm : m = 0
  · exfalso
    subst hm
    have e0 : v = 0 := by rw [← hv]; simp [Rat.div_def]
    have := p2_pos 1023
    grind
  · generalize hD : m <<< more = D at *
    rw [Nat.shiftLeft_eq] at hD
    have hdm := Nat.div_add_mod D n
    have hlt := Nat.mod_lt D (Nat.pos_of_ne_zero hn)
    -- the quotient has at least 54 digits
    have hq : 2 ^ 53 ≤ D / n := by
      rw [Nat.le_div_iff_mul_le (Nat.pos_of_ne_zero hn), ← hD]
      have a1 : n < 2 ^ (n.log2 + 1) := Nat.lt_log2_self
      have a2 : 2 ^ m.log2 ≤ m := Nat.log2_self_le hm
      have a3 : 2 ^ 53 * n ≤ 2 ^ 53 * 2 ^ (n.log2 + 1) := Nat.mul_le_mul_left _ (Nat.le_of_lt a1)
      have a4 : 2 ^ 53 * 2 ^ (n.log2 + 1) ≤ 2 ^ m.log2 * 2 ^ more := by
        rw [← Nat.pow_add, ← Nat.pow_add]; exact Nat.pow_le_pow_right (by omega) (by omega)
      have a5 : 2 ^ m.log2 * 2 ^ more ≤ m * 2 ^ more := Nat.mul_le_mul_right _ a2
      omega
    generalize hq0 : D / n = q0 at *
    generalize hr0 : D % n = r0 at *
    generalize hst : (r0 != 0).toNat = st at *
    have hst1 : st ≤ 1 := by rw [← hst]; exact Bool.toNat_le _
    have hst0 : st = 0 → r0 = 0 := by
      intro h; rw [← hst] at h
      cases hb : (r0 != 0)
      · simpa using hb
      · rw [hb] at h; simp at h
    -- v in units of 2^place
    generalize hpl : i - j - (more : Int) - 1 = pl at *
    have pp := p2_pos pl
    have hDv : v * n = 2 * D * p2 pl := by
      have hDr : (D : Rat) = m * p2 more := by rw [p2_nat, ← hD, Rat.natCast_mul]
      have hpi : p2 i = 2 * p2 more * p2 pl * p2 j := by
        rw [← p2_one, ← p2_add, ← p2_add, ← p2_add, show (1 : Int) + more + pl + j = i by omega]
      have hp : (n : Rat) * p2 j ≠ 0 := by
        have := Rat.mul_pos hnp pj; grind
      have h3 : v * (n * p2 j) = m * p2 i := by rw [← hv]; exact Rat.div_mul_cancel hp
      rw [hpi] at h3
      have h4 : (v * n) * p2 j = (2 * D * p2 pl) * p2 j := by rw [hDr]; grind
      have a1 := Rat.le_of_mul_le_mul_right (show (v * n) * p2 j ≤ (2 * D * p2 pl) * p2 j by grind) pj
      have a2 := Rat.le_of_mul_le_mul_right (show (2 * D * p2 pl) * p2 j ≤ (v * n) * p2 j by grind) pj
      grind
    have hDq : (D : Rat) = n * q0 + r0 := by
      have : n * q0 + r0 = D := hdm
      rw [← this]; simp
    have rr : (r0 : Rat) < n := by exact_mod_cast hlt
    have rr0 : (0 : Rat) ≤ r0 := natCast_nn _
    have vlo : 2 * q0 * p2 pl ≤ v := by
      apply Rat.le_of_mul_le_mul_right _ hnp
      rw [hDv, hDq]
      have := Rat.mul_nonneg rr0 (Rat.le_of_lt pp)
      grind
    have vhi : v < (2 * q0 + 2) * p2 pl := by
      apply Rat.lt_of_mul_lt_mul_right _ (Rat.le_of_lt hnp)
      rw [hDv, hDq]
      have := Rat.mul_lt_mul_of_pos_right rr pp
      grind
    have hmag : 2 * q0 + st ≠ 0 := by omega
    obtain ⟨E, K, hK, hEK, hw, n1, n2, nd, nu⟩ := nearest_spec (s ^^ t) (2 * q0 + st) pl hmag
    have hE : 2044 ≤ E := by
      apply Classical.byContradiction
      intro hc
      have a1 := p2_le (show (E : Int) - 1021 ≤ 1022 by omega)
      have a2 : ((2 * q0 : Nat) : Rat) * p2 pl ≤ ((2 * q0 + st : Nat) : Rat) * p2 pl := Rat.mul_le_mul_of_nonneg_right (by exact_mod_cast (show 2 * q0 ≤ 2 * q0 + st by omega)) (Rat.le_of_lt pp)
      have a3 : (2 : Rat) * p2 pl ≤ ((2 * q0 : Nat) : Rat) * p2 pl := Rat.mul_le_mul_of_nonneg_right (by exact_mod_cast (show 2 ≤ 2 * q0 by omega)) (Rat.le_of_lt pp)
      have a4 : p2 1023 = 2 * p2 1022 := by rw [show (1023 : Int) = 1 + 1022 by omega, p2_add, p2_one]
      have a5 : ((2 * q0 : Nat) : Rat) = 2 * (q0 : Rat) := by rw [Rat.natCast_mul]; rfl
      rw [a5] at a2 a3
      grind
    have hr : min (E * 2 ^ 52 + K) (2047 * 2 ^ 52) < 2 ^ 63 := Nat.lt_of_le_of_lt (Nat.min_le_right _ _) (by decide)
    rw [hw]
    exact ⟨word_lt _ _ hr, by rw [word_mod _ _ hr]; exact Nat.le_min.2 ⟨Nat.le_trans (Nat.mul_le_mul_right _ hE) (Nat.le_add_right _ _), by decide⟩, by rw [word_mod _ _ hr]; exact Nat.min_le_right _ _, word_sign _ _ hr⟩
end Go.Proofs.YtnkpcjmmingkkaaDoor.FL
