/- Rounding half away from zero, on words and on numbers; and words that stand for whole numbers. Plain Lean. -/
import Derived.Test.YtofppnnfgkpcgaaFloat
namespace Go.Proofs.Ytofppnnfgkpcgaa.FL
open Ieee

theorem floor_eq {v : Rat} {n : Int} (h1 : (n : Rat) ≤ v) (h2 : v < ((n + 1 : Int) : Rat)) : v.floor = n := by
  have a := Rat.le_floor_iff.2 h1
  have b := Rat.floor_lt_iff.2 h2
  omega

/-- To the nearest whole number, halves away from zero. -/
def roundInt (v : Rat) : Int := if 0 ≤ v then (v + 1 / 2).floor else -((-v + 1 / 2).floor)

theorem roundInt_mono {u v : Rat} (h : u ≤ v) : roundInt u ≤ roundInt v := by
  unfold roundInt
  by_cases hu : 0 ≤ u
  · rw [if_pos hu, if_pos (by grind)]
    exact Rat.floor_monotone (by grind)
  · rw [if_neg hu]
    have h1 : 0 ≤ (-u + 1 / 2).floor := Rat.le_floor_iff.2 (by simp; grind)
    by_cases hv : 0 ≤ v
    · rw [if_pos hv]
      have h2 : 0 ≤ (v + 1 / 2).floor := Rat.le_floor_iff.2 (by simp; grind)
      omega
    · rw [if_neg hv]
      have := Rat.floor_monotone (show -v + 1 / 2 ≤ -u + 1 / 2 by grind)
      omega

theorem roundInt_sg (s : Bool) {a : Rat} (ha : 0 ≤ a) : roundInt (sg s * a) = (if s then -(a + 1 / 2).floor else (a + 1 / 2).floor) := by
  unfold roundInt
  cases s
  · simp [sg, ha]
  · by_cases h0 : a = 0
    · subst h0
      have e : ((0 : Rat) + 1 / 2).floor = 0 := by decide +kernel
      simp [sg]
      decide +kernel
    · have : ¬ 0 ≤ sg true * a := by simp [sg]; grind
      rw [if_neg this]
      have e : -(sg true * a) = a := by simp [sg]; grind
      rw [e]; rfl

/-- What math.Round makes of a word. -/
def roundw (x : Nat) : Nat :=
  if x / 2 ^ 52 % 2048 < 1023 then x / 2 ^ 63 % 2 * 2 ^ 63 + (if x / 2 ^ 52 % 2048 = 1022 then 1023 * 2 ^ 52 else 0)
  else if x / 2 ^ 52 % 2048 < 1075 then
    (x + 2 ^ (1074 - x / 2 ^ 52 % 2048)) - (x + 2 ^ (1074 - x / 2 ^ 52 % 2048)) % 2 ^ (1075 - x / 2 ^ 52 % 2048)
  else x

theorem exp_field (x : Nat) : x / 2 ^ 52 % 2048 = x % 2 ^ 63 / 2 ^ 52 := by omega

theorem sign_word (x : Nat) (hx : x < 2 ^ 64) : x = double.word (x / 2 ^ 63 % 2 == 1) (x % 2 ^ 63) := by
  unfold Format.word; rw [sw]
  by_cases h : x / 2 ^ 63 % 2 = 1
  · simp [h]; omega
  · simp [h]; omega

theorem word_of (s : Bool) (r : Nat) : double.word s r = (if s then 2 ^ 63 else 0) + r := by
  unfold Format.word; rw [sw]; cases s <;> simp

theorem roundw_spec {x : Nat} (hx : x < 2 ^ 64) (hf : Fin x) : roundw x < 2 ^ 64 ∧ Fin (roundw x) ∧ rv (roundw x) = (roundInt (rv x) : Rat) := by
  obtain ⟨E, K, hK, hEK, hr, hv⟩ := fin_form hf
  have hnn := mulp_nn K ((E : Int) - 1074)
  rw [hv, show sg (x / 2 ^ 63 % 2 == 1) * (K : Rat) * p2 ((E : Int) - 1074) = sg (x / 2 ^ 63 % 2 == 1) * (K * p2 ((E : Int) - 1074)) by grind, roundInt_sg _ hnn]
  have hef := exp_field x
  have hsx := sign_word x hx
  have hfin := hf
  unfold Fin at hfin
  unfold roundw
  rw [hef, hr]
  generalize hs : (x / 2 ^ 63 % 2 == 1) = s at *
  have hsn : x / 2 ^ 63 % 2 * 2 ^ 63 = (if s then 2 ^ 63 else 0) := by
    rw [← hs]
    have : x / 2 ^ 63 % 2 = 0 ∨ x / 2 ^ 63 % 2 = 1 := by omega
    rcases this with h | h <;> rw [h] <;> simp
  rw [hsn]
  by_cases h1 : (E * 2 ^ 52 + K) / 2 ^ 52 < 1023
  · rw [if_pos h1]
    by_cases h2 : (E * 2 ^ 52 + K) / 2 ^ 52 = 1022
    · -- one half and more, less than one
      rw [if_pos h2, show (if s then 2 ^ 63 else 0) + 1023 * 2 ^ 52 = double.word s (1022 * 2 ^ 52 + 2 ^ 52) by rw [word_of]]
      have hE : E = 1021 := by omega
      have hK2 : 2 ^ 52 ≤ K := by omega
      subst hE
      refine ⟨word_lt _ _ (by omega), ?_, ?_⟩
      · unfold Fin; rw [word_mod _ _ (by omega)]; omega
      · rw [rung_val s 1022 (2 ^ 52) (by omega) (Or.inr (Nat.le_refl _)) (by omega)]
        have e1 : (((2 ^ 52 : Nat) : Rat)) * p2 (((1022 : Nat) : Int) - 1074) = 1 := by
          rw [← p2_nat, ← p2_add, show ((52 : Nat) : Int) + (((1022 : Nat) : Int) - 1074) = 0 by omega, p2_zero]
        have e2 : p2 (((1021 : Nat) : Int) - 1074) = 1 / 9007199254740992 := by
          rw [show ((1021 : Nat) : Int) - 1074 = -53 by omega]; exact u53_eq
        have k1 : ((2 ^ 52 : Nat) : Rat) ≤ K := by exact_mod_cast hK2
        have k2 : (K : Rat) < ((2 ^ 53 : Nat) : Rat) := by exact_mod_cast hK
        have e52 : ((2 ^ 52 : Nat) : Rat) = 4503599627370496 := by rfl
        have e53 : ((2 ^ 53 : Nat) : Rat) = 9007199254740992 := by rfl
        have hfl : ((K : Rat) * p2 (((1021 : Nat) : Int) - 1074) + 1 / 2).floor = 1 := by
          apply floor_eq
          · rw [e2]; simp; grind
          · rw [e2]; simp; grind
        rw [hfl]
        cases s <;> simp [sg] <;> grind
    · -- less than one half
      rw [if_neg h2, show (if s then 2 ^ 63 else 0) + 0 = double.word s 0 by rw [word_of]]
      refine ⟨word_lt _ _ (by omega), ?_, ?_⟩
      · unfold Fin; rw [word_mod _ _ (by omega)]; omega
      · rw [rv_word_zero]
        have hlt : (K : Rat) * p2 ((E : Int) - 1074) < 1 / 2 := by
          have hE : E ≤ 1020 := by omega
          have k2 : (K : Rat) < ((2 ^ 53 : Nat) : Rat) := by exact_mod_cast hK
          have a1 := Rat.mul_lt_mul_of_pos_right k2 (p2_pos ((E : Int) - 1074))
          rw [← p2_nat, ← p2_add] at a1
          have a2 : p2 (((53 : Nat) : Int) + ((E : Int) - 1074)) ≤ p2 (-1) := p2_le (by omega)
          have a3 : p2 (-1) = 1 / 2 := by unfold p2; decide +kernel
          grind
        have hfl : ((K : Rat) * p2 ((E : Int) - 1074) + 1 / 2).floor = 0 := by
          apply floor_eq
          · simp; grind
          · simp; grind
        rw [hfl]; cases s <;> simp
  · rw [if_neg h1]
    have hK2 : 2 ^ 52 ≤ K := by omega
    by_cases h2 : (E * 2 ^ 52 + K) / 2 ^ 52 < 1075
    · rw [if_pos h2]
      have hE1 : (E * 2 ^ 52 + K) / 2 ^ 52 = E + 1 := by omega
      rw [hE1]
      obtain ⟨k, hk⟩ : ∃ k : Nat, 1075 - (E + 1) = k + 1 := ⟨1074 - (E + 1), by omega⟩
      rw [hk, show 1074 - (E + 1) = k by omega]
      have hk52 : k ≤ 51 := by omega
      have hpk : 2 ^ k ≤ 2 ^ 51 := Nat.pow_le_pow_right (by omega) hk52
      -- 2^(k+1) divides 2^52
      obtain ⟨D, hD⟩ : ∃ D, 2 ^ 52 = D * 2 ^ (k + 1) := ⟨2 ^ (51 - k), by rw [← Nat.pow_add]; congr 1; omega⟩
      have hPp : 0 < 2 ^ (k + 1) := Nat.two_pow_pos _
      have hP2 : 2 ^ (k + 1) = 2 * 2 ^ k := by rw [Nat.pow_succ]; omega
      have hx2 : x = (if s then 2 ^ 63 else 0) + E * 2 ^ 52 + K := by
        rw [hsx, word_of, hr]; omega
      generalize hH : 2 ^ k = H at *
      generalize hP : 2 ^ (k + 1) = P at *
      -- the multiples
      have hdm := Nat.div_add_mod (K + H) P
      have hml := Nat.mod_lt (K + H) hPp
      generalize hq : (K + H) / P = q at *
      generalize hmm : (K + H) % P = m at *
      have hmod : (x + H) % P = m := by
        have hs64 : ∃ c, (if s then 2 ^ 63 else 0) + E * 2 ^ 52 = c * P := by
          refine ⟨((if s then 2048 else 0) + E) * D, ?_⟩
          have : (if s then 2 ^ 63 else 0) + E * 2 ^ 52 = ((if s then 2048 else 0) + E) * 2 ^ 52 := by
            cases s <;> simp <;> omega
          rw [this, hD, Nat.mul_assoc]
        obtain ⟨c, hc⟩ := hs64
        rw [hx2, hc, Nat.add_assoc, Nat.add_comm (c * P), Nat.add_mul_mod_self_right]
        exact hmm
      rw [hmod]
      have hPq : P * q = K + H - m := by omega
      have hKq : K + H - m ≤ 2 ^ 53 := by
        -- K + H ≤ 2^53 - 1 + H; the multiple of P below is at most 2^53
        have hle : K + H < 2 ^ 53 + P := by omega
        have : P * q < P * (2 * D + 1) := by
          have e : P * (2 * D + 1) = 2 ^ 53 + P := by
            rw [Nat.mul_add, Nat.mul_one, Nat.mul_left_comm, Nat.mul_comm P D, ← hD]
          omega
        have hq2 : q < 2 * D + 1 := Nat.lt_of_mul_lt_mul_left this
        have : P * q ≤ P * (2 * D) := Nat.mul_le_mul_left _ (by omega)
        have e : P * (2 * D) = 2 ^ 53 := by rw [Nat.mul_left_comm, Nat.mul_comm P D, ← hD]
        omega
      have hKq2 : 2 ^ 52 ≤ K + H - m := by
        have : P * D ≤ P * q := by
          apply Nat.mul_le_mul_left
          rw [← hq, Nat.le_div_iff_mul_le hPp, ← hD]; omega
        have e : P * D = 2 ^ 52 := by rw [Nat.mul_comm, ← hD]
        omega
      rw [show x + H - m = double.word s (E * 2 ^ 52 + (K + H - m)) by rw [word_of, hx2]; omega]
      have hfin2 : E * 2 ^ 52 + (K + H - m) < 2047 * 2 ^ 52 := by omega
      refine ⟨word_lt _ _ (by omega), ?_, ?_⟩
      · unfold Fin; rw [word_mod _ _ (by omega)]; omega
      · rw [rung_val s E (K + H - m) hKq (Or.inr hKq2) hfin2, ← hPq]
        have hpe : ((P : Nat) : Rat) * p2 ((E : Int) - 1074) = 1 := by
          rw [← hP, ← p2_nat, ← p2_add, show ((k + 1 : Nat) : Int) + ((E : Int) - 1074) = 0 by omega, p2_zero]
        have hpp := p2_pos ((E : Int) - 1074)
        have hHr : 2 * (H : Rat) = P := by
          have : 2 * H = P := by omega
          exact_mod_cast this
        have hqv : ((P * q : Nat) : Rat) * p2 ((E : Int) - 1074) = q := by
          rw [Rat.natCast_mul]
          have : (P : Rat) * q * p2 ((E : Int) - 1074) = q * (P * p2 ((E : Int) - 1074)) := by grind
          rw [this, hpe]; grind
        have hh : (H : Rat) * p2 ((E : Int) - 1074) = 1 / 2 := by grind
        have hfl : ((K : Rat) * p2 ((E : Int) - 1074) + 1 / 2).floor = (q : Int) := by
          have hsum : (K : Rat) + H = P * q + m := by
            have : K + H = P * q + m := by omega
            exact_mod_cast this
          have hmr : (m : Rat) < P := by exact_mod_cast hml
          have hm0 : (0 : Rat) ≤ m := natCast_nn m
          have hval : (K : Rat) * p2 ((E : Int) - 1074) + 1 / 2 = q + m * p2 ((E : Int) - 1074) := by
            have : ((K : Rat) + H) * p2 ((E : Int) - 1074) = (P * q + m) * p2 ((E : Int) - 1074) := by rw [hsum]
            rw [Rat.natCast_mul] at hqv
            grind
          have l1 := Rat.mul_nonneg hm0 (Rat.le_of_lt hpp)
          have l2 := Rat.mul_lt_mul_of_pos_right hmr hpp
          apply floor_eq
          · rw [hval, Rat.intCast_natCast]; grind
          · rw [hval, Rat.intCast_add, Rat.intCast_natCast]; simp; grind
        rw [hfl]
        cases s
        · simp [sg, Rat.intCast_natCast]; rw [Rat.natCast_mul] at hqv; exact hqv
        · simp [sg, Rat.intCast_natCast]; rw [Rat.natCast_mul] at hqv; grind
    · -- already whole
      rw [if_neg h2]
      refine ⟨hx, hf, ?_⟩
      have hE : 1074 ≤ E := by omega
      obtain ⟨d, hd⟩ : ∃ d : Nat, (E : Int) - 1074 = (d : Int) := ⟨E - 1074, by omega⟩
      have hw : (K : Rat) * p2 ((E : Int) - 1074) = ((K * 2 ^ d : Nat) : Rat) := by
        rw [hd, p2_nat, Rat.natCast_mul]
      rw [hv, show sg s * (K : Rat) * p2 ((E : Int) - 1074) = sg s * (K * p2 ((E : Int) - 1074)) by grind, hw]
      generalize K * 2 ^ d = M
      have hfl : ((M : Rat) + 1 / 2).floor = (M : Int) := by
        apply floor_eq
        · rw [Rat.intCast_natCast]; grind
        · rw [Rat.intCast_add, Rat.intCast_natCast]; simp; grind
      rw [hfl]
      cases s <;> simp [sg, Rat.intCast_natCast] <;> grind

/-- A word that stands for a whole number, cut towards zero. -/
theorem toInt_whole {w : Nat} (hf : Fin w) {N : Int} (h : rv w = N) : (double.read w).toInt .zero = some N := by
  obtain ⟨m, i, e⟩ := read_fin hf
  rw [rv_read e] at h
  rw [e]
  generalize (w / 2 ^ 63 % 2 == 1) = s at *
  unfold Datum.toInt Datum.integral
  simp only
  have key : Toward.zero.cut s (m <<< i.toNat) (-i).toNat = N.natAbs := by
    unfold Toward.cut
    simp only [Nat.one_shiftLeft, Bool.toNat_false, Nat.add_zero]
    by_cases hi : 0 ≤ i
    · obtain ⟨d, rfl⟩ : ∃ d : Nat, i = d := ⟨i.toNat, by omega⟩
      rw [show (-(d : Int)).toNat = 0 by omega, Nat.zero_min, Nat.pow_zero, Nat.div_one, Int.toNat_natCast, Nat.shiftLeft_eq]
      rw [p2_nat] at h
      have h2 : ((sg s * ((m * 2 ^ d : Nat) : Rat))) = (N : Rat) := by rw [Rat.natCast_mul]; grind
      cases s
      · simp only [sg, Bool.false_eq_true, if_false, Rat.one_mul] at h2
        have : ((m * 2 ^ d : Nat) : Int) = N := by exact_mod_cast h2
        omega
      · have h3 : (((-((m * 2 ^ d : Nat) : Int)) : Int) : Rat) = (N : Rat) := by
          rw [Rat.intCast_neg, Rat.intCast_natCast]; simp only [sg, if_true] at h2; grind
        have : -((m * 2 ^ d : Nat) : Int) = N := by exact_mod_cast h3
        omega
    · obtain ⟨d, rfl⟩ : ∃ d : Nat, i = -(d : Int) := ⟨(-i).toNat, by omega⟩
      rw [show (- -(d : Int)).toNat = d by omega, show (-(d : Int)).toNat = 0 by omega, Nat.shiftLeft_zero]
      have hm : m = N.natAbs * 2 ^ d := by
        have hp : p2 (-(d : Int)) * ((2 ^ d : Nat) : Rat) = 1 := by
          rw [← p2_nat, ← p2_add, show -(d : Int) + (d : Int) = 0 by omega, p2_zero]
        have h2 : sg s * (m : Rat) = (N : Rat) * ((2 ^ d : Nat) : Rat) := by
          have : sg s * (m : Rat) * p2 (-(d : Int)) * ((2 ^ d : Nat) : Rat) = (N : Rat) * ((2 ^ d : Nat) : Rat) := by rw [h]
          grind
        cases s
        · simp only [sg, Bool.false_eq_true, if_false, Rat.one_mul] at h2
          have h3 : ((m : Nat) : Int) = N * ((2 ^ d : Nat) : Int) := by exact_mod_cast h2
          have h4 : ((m : Int)).natAbs = (N * ((2 ^ d : Nat) : Int)).natAbs := by rw [h3]
          rw [Int.natAbs_mul, Int.natAbs_natCast, Int.natAbs_natCast] at h4
          exact h4
        · have h3 : (((-(m : Int)) : Int) : Rat) = ((N * ((2 ^ d : Nat) : Int) : Int) : Rat) := by
            rw [Rat.intCast_neg, Rat.intCast_natCast, Rat.intCast_mul, Rat.intCast_natCast]; simp only [sg, if_true] at h2; grind
          have h5 : -(m : Int) = N * ((2 ^ d : Nat) : Int) := by exact_mod_cast h3
          have h4 : (-(m : Int)).natAbs = (N * ((2 ^ d : Nat) : Int)).natAbs := by rw [h5]
          rw [Int.natAbs_mul, Int.natAbs_neg, Int.natAbs_natCast, Int.natAbs_natCast] at h4
          exact h4
      by_cases hd : d ≤ m.log2 + 2
      · rw [Nat.min_eq_left hd, hm, Nat.mul_div_cancel _ (Nat.two_pow_pos _)]
      · by_cases hN : N.natAbs = 0
        · rw [hN] at hm; rw [hm]; simp [hN]
        · exfalso
          have h1 : m < 2 ^ (m.log2 + 1) := Nat.lt_log2_self
          have h2 : 2 ^ (m.log2 + 1) ≤ 2 ^ d := Nat.pow_le_pow_right (by omega) (by omega)
          have h3 : 1 * 2 ^ d ≤ N.natAbs * 2 ^ d := Nat.mul_le_mul_right _ (by omega)
          omega
  rw [key]
  unfold Ieee.signed
  rw [Nat.shiftLeft_zero]
  have hp := p2_pos i
  cases s
  · have : 0 ≤ N := by
      have : (0 : Rat) ≤ (N : Rat) := by rw [← h]; simp only [sg, Bool.false_eq_true, if_false, Rat.one_mul]; exact mulp_nn m i
      exact_mod_cast this
    simp; omega
  · have : N ≤ 0 := by
      have : (N : Rat) ≤ 0 := by
        rw [← h]; simp only [sg, if_true]
        have := mulp_nn m i
        grind
      exact_mod_cast this
    simp; omega

end Go.Proofs.Ytofppnnfgkpcgaa.FL
