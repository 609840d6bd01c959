/- Facts on IEEE double words: what a word stands for as a rational number, and what one rounding does to an exact value. Plain Lean, no program in sight. -/
import GoSem.Core.Float
namespace Go.Proofs.YtnkpcjmmingkkaaDoor.FL
open Ieee

theorem sw : double.signWeight = 2 ^ 63 := rfl
theorem bi : double.binade = 2 ^ 52 := rfl
theorem ir : double.infRung = 2047 * 2 ^ 52 := rfl
theorem lp : double.leastPlace = -1074 := by decide
theorem fb : double.fractionBits = 52 := rfl

/-- The word stands for a finite number. -/
def Fin (w : Nat) : Prop := w % 2 ^ 63 < 2047 * 2 ^ 52
def p2 (e : Int) : Rat := (2 : Rat) ^ e
def sg (b : Bool) : Rat := if b then -1 else 1
def dval : Datum → Rat
  | .number s m p => sg s * m * p2 p
  | _ => 0
/-- The number that a word stands for (0 for an infinity or a NaN). -/
def rv (w : Nat) : Rat := dval (double.read w)

/-! ### powers of two -/
theorem p2_pos (e : Int) : 0 < p2 e := Rat.zpow_pos (by decide)
theorem p2_add (a b : Int) : p2 (a + b) = p2 a * p2 b := Rat.zpow_add (by decide) a b
theorem p2_nat (n : Nat) : p2 n = ((2 ^ n : Nat) : Rat) := by
  unfold p2; rw [Rat.zpow_natCast]; simp
theorem p2_zero : p2 0 = 1 := by unfold p2; simp
theorem p2_one : p2 1 = 2 := by unfold p2; simp
theorem p2_le {a b : Int} (h : a ≤ b) : p2 a ≤ p2 b := by
  obtain ⟨n, rfl⟩ : ∃ n : Nat, b = a + n := ⟨(b - a).toNat, by omega⟩
  rw [p2_add, p2_nat]
  have h1 : (1 : Rat) ≤ ((2 ^ n : Nat) : Rat) := by
    have : 1 ≤ 2 ^ n := Nat.one_le_two_pow
    exact_mod_cast this
  have := p2_pos a
  have := Rat.mul_le_mul_of_nonneg_left h1 (Rat.le_of_lt this)
  grind
theorem p2_lt {a b : Int} (h : a < b) : p2 a < p2 b := by
  have h1 : p2 (a + 1) ≤ p2 b := p2_le (by omega)
  rw [p2_add, p2_one] at h1
  have := p2_pos a
  grind

/-! ### what is kept of a whole number -/
theorem cut_even (neg : Bool) (n d : Nat) :
    2 * (Toward.even.cut neg n d * 2 ^ d) ≤ 2 * n + 2 ^ d ∧ 2 * n ≤ 2 * (Toward.even.cut neg n d * 2 ^ d) + 2 ^ d := by
  unfold Toward.cut
  simp only [Nat.one_shiftLeft]
  by_cases hd : d ≤ n.log2 + 2
  · rw [Nat.min_eq_left hd]
    have hG : 0 < 2 ^ d := Nat.two_pow_pos d
    generalize 2 ^ d = G at *
    have h1 := Nat.div_add_mod n G
    have h2 := Nat.mod_lt n hG
    generalize n / G = low at *
    generalize n % G = rest at *
    rw [Nat.add_mul, Nat.mul_comm low G]
    generalize hb : (decide (G < 2 * rest) || (G == 2 * rest && low % 2 == 1)) = b
    cases b
    · simp at hb
      simp
      omega
    · have : G ≤ 2 * rest := by
        simp at hb; omega
      simp
      omega
  · have hlt : n < 2 ^ (n.log2 + 1) := Nat.lt_log2_self
    rw [Nat.min_eq_right (by omega)]
    have hp : 2 ^ (n.log2 + 2) = 2 * 2 ^ (n.log2 + 1) := by rw [Nat.pow_succ]; omega
    have hle : 2 ^ (n.log2 + 2) ≤ 2 ^ d := Nat.pow_le_pow_right (by omega) (by omega)
    rw [Nat.div_eq_of_lt (by omega), Nat.mod_eq_of_lt (by omega)]
    have e : (decide (2 ^ (n.log2 + 2) < 2 * n) || (2 ^ (n.log2 + 2) == 2 * n && 0 % 2 == 1)) = false := by
      simp; omega
    rw [e]
    simp
    omega

/-! ### words and rungs -/
theorem word_mod (neg : Bool) (r : Nat) (h : r < 2 ^ 63) : double.word neg r % 2 ^ 63 = r := by
  unfold Format.word; rw [sw]
  cases neg
  · simpa using Nat.mod_eq_of_lt h
  · simp; omega
theorem word_sign (neg : Bool) (r : Nat) (h : r < 2 ^ 63) : (double.word neg r / 2 ^ 63 % 2 == 1) = neg := by
  unfold Format.word; rw [sw]
  cases neg
  · simp; omega
  · simp; omega
theorem word_lt (neg : Bool) (r : Nat) (h : r < 2 ^ 63) : double.word neg r < 2 ^ 64 := by
  unfold Format.word; rw [sw]
  cases neg
  · simp; omega
  · simp; omega

theorem read_sub {w : Nat} (h : w % 2 ^ 63 < 2 ^ 52) : double.read w = .number (w / 2 ^ 63 % 2 == 1) (w % 2 ^ 63) (-1074) := by
  unfold Format.read
  exact if_pos (show w % double.signWeight < double.binade from h)
theorem read_nor {w : Nat} (h : ¬ w % 2 ^ 63 < 2 ^ 52) (h2 : w % 2 ^ 63 < 2047 * 2 ^ 52) :
    double.read w = .number (w / 2 ^ 63 % 2 == 1) (2 ^ 52 + w % 2 ^ 63 % 2 ^ 52) (-1074 + (w % 2 ^ 63 / 2 ^ 52 - 1 : Nat)) := by
  unfold Format.read
  exact (if_neg (show ¬ w % double.signWeight < double.binade from h)).trans (if_pos (show w % double.signWeight < double.infRung from h2))
theorem read_inf {w : Nat} (h : w % 2 ^ 63 = 2047 * 2 ^ 52) : double.read w = .infinity (w / 2 ^ 63 % 2 == 1) := by
  unfold Format.read
  exact (if_neg (show ¬ w % double.signWeight < double.binade by rw [sw, h, bi]; omega)).trans
    ((if_neg (show ¬ w % double.signWeight < double.infRung by rw [sw, h, ir]; omega)).trans (if_pos (show w % double.signWeight = double.infRung from h)))
theorem read_nan {w : Nat} (h : 2047 * 2 ^ 52 < w % 2 ^ 63) : double.read w = .nan (w / 2 ^ 63 % 2 == 1) (w % 2 ^ 63 - 2047 * 2 ^ 52) := by
  unfold Format.read
  exact (if_neg (show ¬ w % double.signWeight < double.binade by rw [sw, bi]; omega)).trans
    ((if_neg (show ¬ w % double.signWeight < double.infRung by rw [sw, ir]; omega)).trans (if_neg (show ¬ w % double.signWeight = double.infRung by rw [sw, ir]; omega)))

theorem read_fin {w : Nat} (h : Fin w) : ∃ m p, double.read w = .number (w / 2 ^ 63 % 2 == 1) m p := by
  by_cases h1 : w % 2 ^ 63 < 2 ^ 52
  · exact ⟨_, _, read_sub h1⟩
  · exact ⟨_, _, read_nor h1 h⟩

theorem fin_of_read {w : Nat} {s m p} (h : double.read w = .number s m p) : Fin w := by
  unfold Fin
  by_cases h1 : w % 2 ^ 63 = 2047 * 2 ^ 52
  · rw [read_inf h1] at h; cases h
  · by_cases h2 : 2047 * 2 ^ 52 < w % 2 ^ 63
    · rw [read_nan h2] at h; cases h
    · omega

/-- The number of the finite word with the rung 'E * 2^52 + K'. -/
theorem rung_val (neg : Bool) (E K : Nat) (hK : K ≤ 2 ^ 53) (hE : E = 0 ∨ 2 ^ 52 ≤ K) (hf : E * 2 ^ 52 + K < 2047 * 2 ^ 52) :
    rv (double.word neg (E * 2 ^ 52 + K)) = sg neg * K * p2 ((E : Int) - 1074) := by
  have hlt : E * 2 ^ 52 + K < 2 ^ 63 := by omega
  unfold rv
  by_cases h1 : K < 2 ^ 52
  · have h0 : E = 0 := by omega
    subst h0
    rw [read_sub (by rw [word_mod _ _ hlt]; omega), word_mod _ _ hlt, word_sign _ _ hlt]
    simp [dval]
  · rw [read_nor (by rw [word_mod _ _ hlt]; omega) (by rw [word_mod _ _ hlt]; exact hf), word_mod _ _ hlt, word_sign _ _ hlt]
    by_cases h2 : K < 2 ^ 53
    · have e1 : (E * 2 ^ 52 + K) % 2 ^ 52 = K - 2 ^ 52 := by omega
      have e2 : (E * 2 ^ 52 + K) / 2 ^ 52 = E + 1 := by omega
      rw [e1, e2, show 2 ^ 52 + (K - 2 ^ 52) = K by omega]
      simp only [dval]
      rw [show (-1074 + ((E + 1 - 1 : Nat) : Int)) = (E : Int) - 1074 by omega]
    · have h3 : K = 2 ^ 53 := by omega
      subst h3
      have e1 : (E * 2 ^ 52 + 2 ^ 53) % 2 ^ 52 = 0 := by omega
      have e2 : (E * 2 ^ 52 + 2 ^ 53) / 2 ^ 52 = E + 2 := by omega
      rw [e1, e2]
      simp only [dval]
      rw [show (-1074 + ((E + 2 - 1 : Nat) : Int)) = 1 + ((E : Int) - 1074) by omega, p2_add, p2_one]
      have : (((2 ^ 53 : Nat) : Rat)) = 2 * ((2 ^ 52 + 0 : Nat) : Rat) := by decide +kernel
      rw [this]
      grind

/-- Every finite number is 'K * 2^(E - 1074)'. -/
theorem fin_form {w : Nat} (h : Fin w) : ∃ E K : Nat, K < 2 ^ 53 ∧ (E = 0 ∨ 2 ^ 52 ≤ K) ∧ w % 2 ^ 63 = E * 2 ^ 52 + K ∧
    rv w = sg (w / 2 ^ 63 % 2 == 1) * K * p2 ((E : Int) - 1074) := by
  unfold Fin at h
  by_cases h1 : w % 2 ^ 63 < 2 ^ 52
  · refine ⟨0, w % 2 ^ 63, by omega, Or.inl rfl, by omega, ?_⟩
    unfold rv; rw [read_sub h1]; simp [dval]
  · refine ⟨w % 2 ^ 63 / 2 ^ 52 - 1, 2 ^ 52 + w % 2 ^ 63 % 2 ^ 52, by omega, Or.inr (by omega), by omega, ?_⟩
    unfold rv; rw [read_nor h1 h]
    simp only [dval]
    congr 2

/-! ### the nearest word -/
theorem nearest_spec (neg : Bool) (mag : Nat) (place : Int) (hm : mag ≠ 0) : ∃ E K : Nat, K ≤ 2 ^ 53 ∧ (E = 0 ∨ 2 ^ 52 ≤ K) ∧
    double.nearest neg mag place = double.word neg (min (E * 2 ^ 52 + K) (2047 * 2 ^ 52)) ∧
    2 * K * p2 ((E : Int) - 1074) ≤ 2 * mag * p2 place + p2 ((E : Int) - 1074) ∧
    2 * mag * p2 place ≤ 2 * K * p2 ((E : Int) - 1074) + p2 ((E : Int) - 1074) ∧
    (E = 0 ∨ p2 ((E : Int) - 1022) ≤ mag * p2 place) ∧ mag * p2 place < p2 ((E : Int) - 1021) := by
  unfold Format.nearest
  rw [if_neg hm]
  simp only [fb, lp, bi, ir]
  generalize hlast : max (place + (mag.log2 : Int) - (52 : Nat)) (-1074) = last
  have hge : -1074 ≤ last := by omega
  obtain ⟨E, hE⟩ : ∃ E : Nat, last = (E : Int) - 1074 := ⟨(last + 1074).toNat, by omega⟩
  have hlo : 2 ^ mag.log2 ≤ mag := Nat.log2_self_le hm
  have hhi : mag < 2 ^ (mag.log2 + 1) := Nat.lt_log2_self
  have rlo : p2 mag.log2 ≤ mag := by rw [p2_nat]; exact_mod_cast hlo
  have rhi : (mag : Rat) < p2 (mag.log2 + 1 : Nat) := by rw [p2_nat]; exact_mod_cast hhi
  have pp := p2_pos place
  have vlo : p2 (mag.log2 + place) ≤ mag * p2 place := by
    rw [p2_add]; exact Rat.mul_le_mul_of_nonneg_right rlo (Rat.le_of_lt pp)
  have vhi : mag * p2 place < p2 ((mag.log2 + 1 : Nat) + place) := by
    rw [p2_add]; exact Rat.mul_lt_mul_of_pos_right rhi pp
  have hup : mag * p2 place < p2 ((E : Int) - 1021) := by
    have : p2 ((mag.log2 + 1 : Nat) + place) ≤ p2 ((E : Int) - 1021) := p2_le (by omega)
    grind
  have hdn : E = 0 ∨ p2 ((E : Int) - 1022) ≤ mag * p2 place := by
    by_cases h0 : E = 0
    · exact Or.inl h0
    · right
      have : p2 ((E : Int) - 1022) ≤ p2 (mag.log2 + place) := p2_le (by omega)
      grind
  have hEt : (last - -1074).toNat = E := by omega
  rw [hEt]
  generalize hK : Toward.even.cut neg (mag <<< (place - last).toNat) (last - place).toNat = K
  have hn : 2 * K * p2 ((E : Int) - 1074) ≤ 2 * mag * p2 place + p2 ((E : Int) - 1074) ∧
      2 * mag * p2 place ≤ 2 * K * p2 ((E : Int) - 1074) + p2 ((E : Int) - 1074) := by
    have hc := cut_even neg (mag <<< (place - last).toNat) (last - place).toNat
    rw [hK] at hc
    rw [← hE]
    by_cases hpl : last ≤ place
    · obtain ⟨d, hd⟩ : ∃ d : Nat, place = last + d := ⟨(place - last).toNat, by omega⟩
      rw [show (last - place).toNat = 0 by omega, show (place - last).toNat = d by omega, Nat.shiftLeft_eq] at hc
      have hKe : K = mag * 2 ^ d := by simp at hc; omega
      have hq : (K : Rat) * p2 last = mag * p2 place := by
        rw [hKe, hd, p2_add, p2_nat]
        simp only [Rat.natCast_mul]
        grind
      have := p2_pos last
      grind
    · obtain ⟨d, hd⟩ : ∃ d : Nat, last = place + d := ⟨(last - place).toNat, by omega⟩
      rw [show (place - last).toNat = 0 by omega, show (last - place).toNat = d by omega, Nat.shiftLeft_zero] at hc
      obtain ⟨c1, c2⟩ := hc
      have r1 : 2 * ((K : Rat) * p2 d) ≤ 2 * mag + p2 d := by rw [p2_nat]; exact_mod_cast c1
      have r2 : 2 * (mag : Rat) ≤ 2 * (K * p2 d) + p2 d := by rw [p2_nat]; exact_mod_cast c2
      have s1 := Rat.mul_le_mul_of_nonneg_right r1 (Rat.le_of_lt pp)
      have s2 := Rat.mul_le_mul_of_nonneg_right r2 (Rat.le_of_lt pp)
      rw [hd, p2_add]
      grind
  have pl := p2_pos ((E : Int) - 1074)
  refine ⟨E, K, ?_, ?_, rfl, hn.1, hn.2, hdn, hup⟩
  · -- K ≤ 2^53
    rw [show (E : Int) - 1021 = (53 : Nat) + ((E : Int) - 1074) by omega, p2_add, p2_nat] at hup
    have h1 : (2 * K : Rat) * p2 ((E : Int) - 1074) < (2 * ((2 ^ 53 : Nat) : Rat) + 1) * p2 ((E : Int) - 1074) := by
      have := hn.1
      grind
    have h2 := Rat.lt_of_mul_lt_mul_right h1 (Rat.le_of_lt pl)
    have h3 : 2 * K < 2 * 2 ^ 53 + 1 := by exact_mod_cast h2
    omega
  · rcases hdn with h0 | hdn
    · exact Or.inl h0
    · right
      rw [show (E : Int) - 1022 = (52 : Nat) + ((E : Int) - 1074) by omega, p2_add, p2_nat] at hdn
      have h1 : (2 * ((2 ^ 52 : Nat) : Rat)) * p2 ((E : Int) - 1074) ≤ (2 * K + 1) * p2 ((E : Int) - 1074) := by
        have := hn.2
        grind
      have h2 := Rat.le_of_mul_le_mul_right h1 pl
      have h3 : 2 * 2 ^ 52 ≤ 2 * K + 1 := by exact_mod_cast h2
      omega

/-! ### one rounding -/
def u53 : Rat := p2 (-53)
def eta : Rat := p2 (-1075)
theorem u53_pos : 0 < u53 := p2_pos _
theorem eta_pos : 0 < eta := p2_pos _

theorem near_mag {E K E' k : Nat} {v : Rat} (hEK : E = 0 ∨ 2 ^ 52 ≤ K)
    (h1 : 2 * K * p2 ((E : Int) - 1074) ≤ 2 * v + p2 ((E : Int) - 1074))
    (h2 : 2 * v ≤ 2 * K * p2 ((E : Int) - 1074) + p2 ((E : Int) - 1074))
    (hd : E = 0 ∨ p2 ((E : Int) - 1022) ≤ v) (hk : k < 2 ^ 53) :
    (k * p2 ((E' : Int) - 1074) ≤ v → k * p2 ((E' : Int) - 1074) ≤ K * p2 ((E : Int) - 1074)) ∧
    (v ≤ k * p2 ((E' : Int) - 1074) → K * p2 ((E : Int) - 1074) ≤ k * p2 ((E' : Int) - 1074)) := by
  have pl := p2_pos ((E : Int) - 1074)
  by_cases hE : E ≤ E'
  · obtain ⟨d, rfl⟩ : ∃ d, E' = E + d := ⟨E' - E, by omega⟩
    have e : (k : Rat) * p2 (((E + d : Nat) : Int) - 1074) = ((k * 2 ^ d : Nat) : Rat) * p2 ((E : Int) - 1074) := by
      rw [show ((E + d : Nat) : Int) - 1074 = (d : Nat) + ((E : Int) - 1074) by omega, p2_add, p2_nat]
      simp only [Rat.natCast_mul]
      grind
    rw [e]
    generalize k * 2 ^ d = k'
    constructor
    · intro h
      have h3 : (2 * k' : Rat) * p2 ((E : Int) - 1074) ≤ (2 * K + 1) * p2 ((E : Int) - 1074) := by grind
      have h4 := Rat.le_of_mul_le_mul_right h3 pl
      have h5 : 2 * k' ≤ 2 * K + 1 := by exact_mod_cast h4
      have h6 : (k' : Rat) ≤ K := by exact_mod_cast (show k' ≤ K by omega)
      exact Rat.mul_le_mul_of_nonneg_right h6 (Rat.le_of_lt pl)
    · intro h
      have h3 : (2 * K : Rat) * p2 ((E : Int) - 1074) ≤ (2 * k' + 1) * p2 ((E : Int) - 1074) := by grind
      have h4 := Rat.le_of_mul_le_mul_right h3 pl
      have h5 : 2 * K ≤ 2 * k' + 1 := by exact_mod_cast h4
      have h6 : (K : Rat) ≤ k' := by exact_mod_cast (show K ≤ k' by omega)
      exact Rat.mul_le_mul_of_nonneg_right h6 (Rat.le_of_lt pl)
  · have hK : 2 ^ 52 ≤ K := by omega
    have hd' : p2 ((E : Int) - 1022) ≤ v := by
      rcases hd with h | h
      · omega
      · exact h
    have rK : ((2 ^ 52 : Nat) : Rat) ≤ K := by exact_mod_cast hK
    have rk : (k : Rat) < ((2 ^ 53 : Nat) : Rat) := by exact_mod_cast hk
    have hs : k * p2 ((E' : Int) - 1074) < p2 ((E : Int) - 1022) := by
      have a1 := Rat.mul_lt_mul_of_pos_right rk (p2_pos ((E' : Int) - 1074))
      rw [← p2_nat, ← p2_add] at a1
      have a2 : p2 (((53 : Nat) : Int) + ((E' : Int) - 1074)) ≤ p2 ((E : Int) - 1022) := p2_le (by omega)
      grind
    have hb : p2 ((E : Int) - 1022) ≤ K * p2 ((E : Int) - 1074) := by
      have a1 := Rat.mul_le_mul_of_nonneg_right rK (Rat.le_of_lt pl)
      rw [← p2_nat, ← p2_add, show ((52 : Nat) : Int) + ((E : Int) - 1074) = (E : Int) - 1022 by omega] at a1
      exact a1
    constructor
    · intro _; grind
    · intro h; grind

theorem near_mag2 {E K E' k : Nat} {v : Rat} (hEK : E = 0 ∨ 2 ^ 52 ≤ K)
    (h1 : 2 * K * p2 ((E : Int) - 1074) ≤ 2 * v + p2 ((E : Int) - 1074))
    (h2 : 2 * v ≤ 2 * K * p2 ((E : Int) - 1074) + p2 ((E : Int) - 1074))
    (hd : E = 0 ∨ p2 ((E : Int) - 1022) ≤ v) (hk : k < 2 ^ 53) :
    (k * p2 ((E' : Int) - 1074) ≤ v → v ≤ K * p2 ((E : Int) - 1074) → K * p2 ((E : Int) - 1074) - v ≤ v - k * p2 ((E' : Int) - 1074)) ∧
    (v ≤ k * p2 ((E' : Int) - 1074) → K * p2 ((E : Int) - 1074) ≤ v → v - K * p2 ((E : Int) - 1074) ≤ k * p2 ((E' : Int) - 1074) - v) := by
  have pl := p2_pos ((E : Int) - 1074)
  by_cases hE : E ≤ E'
  · obtain ⟨d, rfl⟩ : ∃ d, E' = E + d := ⟨E' - E, by omega⟩
    have e : (k : Rat) * p2 (((E + d : Nat) : Int) - 1074) = ((k * 2 ^ d : Nat) : Rat) * p2 ((E : Int) - 1074) := by
      rw [show ((E + d : Nat) : Int) - 1074 = (d : Nat) + ((E : Int) - 1074) by omega, p2_add, p2_nat]
      simp only [Rat.natCast_mul]
      grind
    rw [e]
    generalize k * 2 ^ d = k'
    constructor
    · intro h h'
      have h3 : (k' : Rat) * p2 ((E : Int) - 1074) ≤ K * p2 ((E : Int) - 1074) := by grind
      have h4 := Rat.le_of_mul_le_mul_right h3 pl
      have h5 : k' ≤ K := by exact_mod_cast h4
      by_cases hkk : k' = K
      · subst hkk; grind
      · have h6 : (k' : Rat) + 1 ≤ K := by exact_mod_cast (show k' + 1 ≤ K by omega)
        have h7 := Rat.mul_le_mul_of_nonneg_right h6 (Rat.le_of_lt pl)
        grind
    · intro h h'
      have h3 : (K : Rat) * p2 ((E : Int) - 1074) ≤ k' * p2 ((E : Int) - 1074) := by grind
      have h4 := Rat.le_of_mul_le_mul_right h3 pl
      have h5 : K ≤ k' := by exact_mod_cast h4
      by_cases hkk : k' = K
      · subst hkk; grind
      · have h6 : (K : Rat) + 1 ≤ k' := by exact_mod_cast (show K + 1 ≤ k' by omega)
        have h7 := Rat.mul_le_mul_of_nonneg_right h6 (Rat.le_of_lt pl)
        grind
  · have hK : 2 ^ 52 ≤ K := by omega
    have hd' : p2 ((E : Int) - 1022) ≤ v := by
      rcases hd with h | h
      · omega
      · exact h
    have rk : (k : Rat) < ((2 ^ 53 : Nat) : Rat) := by exact_mod_cast hk
    have hs : k * p2 ((E' : Int) - 1074) < p2 ((E : Int) - 1022) := by
      have a1 := Rat.mul_lt_mul_of_pos_right rk (p2_pos ((E' : Int) - 1074))
      rw [← p2_nat, ← p2_add] at a1
      have a2 : p2 (((53 : Nat) : Int) + ((E' : Int) - 1074)) ≤ p2 ((E : Int) - 1022) := p2_le (by omega)
      grind
    have hB : p2 ((E : Int) - 1022) = ((2 ^ 52 : Nat) : Rat) * p2 ((E : Int) - 1074) := by
      rw [← p2_nat, ← p2_add]; congr 1; omega
    constructor
    · intro h h'
      by_cases hkk : K = 2 ^ 52
      · subst hkk; grind
      · have h6 : ((2 ^ 52 : Nat) : Rat) + 1 ≤ K := by exact_mod_cast (show 2 ^ 52 + 1 ≤ K by omega)
        have h7 := Rat.mul_le_mul_of_nonneg_right h6 (Rat.le_of_lt pl)
        grind
    · intro h; grind

theorem sgn_near {σ τ a b v : Rat} (hσ : σ = -1 ∨ σ = 1) (hτ : τ = -1 ∨ τ = 1) (ha : 0 ≤ a) (hb : 0 ≤ b) (hv : 0 ≤ v)
    (h1 : (a ≤ v → a ≤ b) ∧ (v ≤ a → b ≤ a)) :
    (τ * a ≤ σ * v → τ * a ≤ σ * b) ∧ (σ * v ≤ τ * a → σ * b ≤ τ * a) := by
  rcases hσ with rfl | rfl <;> rcases hτ with rfl | rfl <;> grind

theorem sgn_near2 {σ τ a b v : Rat} (hσ : σ = -1 ∨ σ = 1) (hτ : τ = -1 ∨ τ = 1) (ha : 0 ≤ a) (hv : 0 ≤ v)
    (h1 : (a ≤ v → v ≤ b → b - v ≤ v - a) ∧ (v ≤ a → b ≤ v → v - b ≤ a - v))
    (h0 : (0 ≤ v → v ≤ b → b - v ≤ v - 0) ∧ (v ≤ 0 → b ≤ v → v - b ≤ 0 - v)) (hb : 0 ≤ b) :
    (τ * a ≤ σ * v → σ * v ≤ σ * b → σ * b - σ * v ≤ σ * v - τ * a) ∧ (σ * v ≤ τ * a → σ * b ≤ σ * v → σ * v - σ * b ≤ τ * a - σ * v) := by
  rcases hσ with rfl | rfl <;> rcases hτ with rfl | rfl <;> grind

theorem sg_pm (b : Bool) : sg b = -1 ∨ sg b = 1 := by cases b <;> simp [sg]

/-- 'z' is the exact value 'v', rounded once. -/
structure Rnd (v : Rat) (z : Nat) : Prop where
  lt : z < 2 ^ 64
  fin : Fin z
  err : ∀ M : Rat, -M ≤ v → v ≤ M → v - (M * u53 + eta) ≤ rv z ∧ rv z ≤ v + (M * u53 + eta)
  above : ∀ t, Fin t → rv t ≤ v → rv t ≤ rv z
  below : ∀ t, Fin t → v ≤ rv t → rv z ≤ rv t
  nearA : ∀ t, Fin t → rv t ≤ v → v ≤ rv z → rv z - v ≤ v - rv t
  nearB : ∀ t, Fin t → v ≤ rv t → rv z ≤ v → v - rv z ≤ rv t - v

theorem sg_cases (b : Bool) : (b = true ∧ sg b = -1) ∨ (b = false ∧ sg b = 1) := by cases b <;> simp [sg]

theorem natCast_nn (n : Nat) : (0 : Rat) ≤ n := Rat.natCast_nonneg
theorem mulp_nn (n : Nat) (e : Int) : 0 ≤ (n : Rat) * p2 e := Rat.mul_nonneg (natCast_nn n) (Rat.le_of_lt (p2_pos e))

theorem rv_word_zero (neg : Bool) : rv (double.word neg 0) = 0 := by
  have := rung_val neg 0 0 (by omega) (Or.inl rfl) (by omega)
  simp only [Nat.zero_mul, Nat.add_zero] at this
  rw [this]; simp

theorem rnd_core (neg : Bool) (E K : Nat) (v : Rat) (hK : K ≤ 2 ^ 53) (hEK : E = 0 ∨ 2 ^ 52 ≤ K)
    (n1' : 2 * K * p2 ((E : Int) - 1074) ≤ 2 * v + p2 ((E : Int) - 1074))
    (n2' : 2 * v ≤ 2 * K * p2 ((E : Int) - 1074) + p2 ((E : Int) - 1074))
    (nd : E = 0 ∨ p2 ((E : Int) - 1022) ≤ v) (hv0 : 0 ≤ v) (h : v ≤ p2 1023) :
    Rnd (sg neg * v) (double.word neg (min (E * 2 ^ 52 + K) (2047 * 2 ^ 52))) ∧ (double.word neg (min (E * 2 ^ 52 + K) (2047 * 2 ^ 52)) / 2 ^ 63 % 2 == 1) = neg := by
    have pl := p2_pos ((E : Int) - 1074)
    -- finite
    have hE : E ≤ 2045 := by
      rcases nd with h0 | h0
      · omega
      · apply Classical.byContradiction
        intro hc
        have := p2_lt (show (1023 : Int) < (E : Int) - 1022 by omega)
        grind
    have hr : E * 2 ^ 52 + K ≤ 2046 * 2 ^ 52 := by
      by_cases h5 : E = 2045
      · subst h5
        have hn := (near_mag (E' := 2045) (k := 2 ^ 52) hEK n1' n2' nd (by omega)).2
        rw [← p2_nat, ← p2_add] at hn
        have hn2 := hn (by
          rw [show ((52 : Nat) : Int) + (((2045 : Nat) : Int) - 1074) = 1023 by omega]; exact h)
        rw [p2_add, p2_nat] at hn2
        have h4 := Rat.le_of_mul_le_mul_right hn2 pl
        have h5 : K ≤ 2 ^ 52 := by exact_mod_cast h4
        omega
      · omega
    have hmin : min (E * 2 ^ 52 + K) (2047 * 2 ^ 52) = E * 2 ^ 52 + K := by omega
    have hrv := rung_val neg E K hK hEK (by omega)
    rw [hmin]
    have herr : p2 ((E : Int) - 1075) ≤ v * u53 + eta := by
      rcases nd with h0 | h0
      · subst h0
        have : 0 ≤ v * u53 := Rat.mul_nonneg hv0 (Rat.le_of_lt u53_pos)
        show p2 (((0 : Nat) : Int) - 1075) ≤ _
        rw [show ((0 : Nat) : Int) - 1075 = -1075 by omega]
        have : eta = p2 (-1075) := rfl
        grind
      · have a := Rat.mul_le_mul_of_nonneg_right h0 (Rat.le_of_lt u53_pos)
        have b : p2 ((E : Int) - 1022) * u53 = p2 ((E : Int) - 1075) := by
          unfold u53; rw [← p2_add, show (E : Int) - 1022 + -53 = (E : Int) - 1075 by omega]
        have := eta_pos
        grind
    have hhalf : p2 ((E : Int) - 1074) = 2 * p2 ((E : Int) - 1075) := by
      rw [show (E : Int) - 1074 = 1 + ((E : Int) - 1075) by omega, p2_add, p2_one]
    refine ⟨⟨word_lt _ _ (by omega), ?_, ?_, ?_, ?_, ?_, ?_⟩, word_sign _ _ (by omega)⟩
    · unfold Fin; rw [word_mod _ _ (by omega)]; omega
    · intro M h1 h2
      rw [hrv]
      have hMv : v * u53 ≤ M * u53 := by
        apply Rat.mul_le_mul_of_nonneg_right _ (Rat.le_of_lt u53_pos)
        rcases sg_cases neg with ⟨_, hs⟩ | ⟨_, hs⟩ <;> rw [hs] at h1 h2 <;> grind
      rcases sg_cases neg with ⟨_, hs⟩ | ⟨_, hs⟩ <;> rw [hs] <;> grind
    · intro t ht hle
      obtain ⟨E', k, hk, _, _, hrt⟩ := fin_form ht
      have hnear := sgn_near (sg_pm neg) (sg_pm (t / 2 ^ 63 % 2 == 1)) (mulp_nn k ((E' : Int) - 1074)) (mulp_nn K ((E : Int) - 1074)) hv0 (near_mag (E' := E') (k := k) hEK n1' n2' nd hk)
      rw [hrv]; rw [hrt] at hle ⊢
      have := hnear.1
      grind
    · intro t ht hle
      obtain ⟨E', k, hk, _, _, hrt⟩ := fin_form ht
      have hnear := sgn_near (sg_pm neg) (sg_pm (t / 2 ^ 63 % 2 == 1)) (mulp_nn k ((E' : Int) - 1074)) (mulp_nn K ((E : Int) - 1074)) hv0 (near_mag (E' := E') (k := k) hEK n1' n2' nd hk)
      rw [hrv]; rw [hrt] at hle ⊢
      have := hnear.2
      grind
    · intro t ht hle hle2
      obtain ⟨E', k, hk, _, _, hrt⟩ := fin_form ht
      have hnear := sgn_near2 (sg_pm neg) (sg_pm (t / 2 ^ 63 % 2 == 1)) (mulp_nn k ((E' : Int) - 1074)) hv0 (near_mag2 (E' := E') (k := k) hEK n1' n2' nd hk)
        (by simpa using near_mag2 (E' := 0) (k := 0) hEK n1' n2' nd (by omega)) (mulp_nn K ((E : Int) - 1074))
      rw [hrv] at hle2 ⊢; rw [hrt] at hle ⊢
      have := hnear.1
      grind
    · intro t ht hle hle2
      obtain ⟨E', k, hk, _, _, hrt⟩ := fin_form ht
      have hnear := sgn_near2 (sg_pm neg) (sg_pm (t / 2 ^ 63 % 2 == 1)) (mulp_nn k ((E' : Int) - 1074)) hv0 (near_mag2 (E' := E') (k := k) hEK n1' n2' nd hk)
        (by simpa using near_mag2 (E' := 0) (k := 0) hEK n1' n2' nd (by omega)) (mulp_nn K ((E : Int) - 1074))
      rw [hrv] at hle2 ⊢; rw [hrt] at hle ⊢
      have := hnear.2
      grind

theorem rnd_nearest (neg : Bool) (mag : Nat) (place : Int) (h : mag * p2 place ≤ p2 1023) :
    Rnd (sg neg * mag * p2 place) (double.nearest neg mag place) ∧ (double.nearest neg mag place / 2 ^ 63 % 2 == 1) = neg := by
  by_cases hm : mag = 0
  · subst hm
    have hz : double.nearest neg 0 place = double.word neg 0 := by simp [Format.nearest]
    rw [hz]
    have e0 := rv_word_zero neg
    have ev : sg neg * ((0 : Nat) : Rat) * p2 place = 0 := by simp
    rw [ev]
    refine ⟨⟨word_lt _ _ (by omega), ?_, ?_, ?_, ?_, ?_, ?_⟩, word_sign _ _ (by omega)⟩
    · unfold Fin; rw [word_mod _ _ (by omega)]; omega
    · intro M h1 h2
      rw [e0]
      have hM : 0 ≤ M * u53 := Rat.mul_nonneg (by grind) (Rat.le_of_lt u53_pos)
      have := eta_pos
      grind
    · intro t _ ht; rw [e0]; exact ht
    · intro t _ ht; rw [e0]; exact ht
    · intro t _ ht; rw [e0]; grind
    · intro t _ ht; rw [e0]; grind
  · obtain ⟨E, K, hK, hEK, hw, n1, n2, nd, nu⟩ := nearest_spec neg mag place hm
    have hv0 : 0 ≤ (mag : Rat) * p2 place := mulp_nn _ _
    have := rnd_core neg E K (mag * p2 place) hK hEK (by grind) (by grind) nd hv0 h
    rw [hw, show sg neg * (mag : Rat) * p2 place = sg neg * (mag * p2 place) by grind]
    exact this

theorem Rnd.exact {v : Rat} {z t : Nat} (h : Rnd v z) (ht : Fin t) (e : rv t = v) : rv z = v := by
  have := h.above t ht (by grind)
  have := h.below t ht (by grind)
  grind

theorem Rnd.mono {v v' : Rat} {z z' : Nat} (h : Rnd v z) (h' : Rnd v' z') (hlt : v < v') : rv z ≤ rv z' := by
  apply Classical.byContradiction
  intro hc
  by_cases h1 : rv z ≤ v
  · exact hc (h'.above z h.fin (by grind))
  · by_cases h2 : v' ≤ rv z'
    · exact hc (h.below z' h'.fin (by grind))
    · by_cases h3 : rv z ≤ v'
      · exact hc (h'.above z h.fin h3)
      · by_cases h4 : v ≤ rv z'
        · exact hc (h.below z' h'.fin h4)
        · -- z' < v < v' < z : both are nearest
          have a1 := h.nearA z' h'.fin (by grind) (by grind)
          have a2 := h'.nearB z h.fin (by grind) (by grind)
          grind

/-! ### the operations -/
/-- 'z' is the nearest word to 'v'. -/
def IsNear (v : Rat) (z : Nat) : Prop := ∃ (neg : Bool) (mag : Nat) (place : Int), v = sg neg * mag * p2 place ∧ z = double.nearest neg mag place

theorem signed_val (s : Bool) (m up : Nat) : ((Ieee.signed s m up : Int) : Rat) = sg s * m * p2 up := by
  unfold Ieee.signed
  rw [p2_nat]
  cases s
  · simp [sg, Nat.shiftLeft_eq, Rat.intCast_natCast]
  · simp [sg, Nat.shiftLeft_eq, Rat.intCast_natCast]
    grind

theorem total_val (T : Int) (b : Bool) (hb : T ≠ 0 → b = decide (T < 0)) : sg b * (T.natAbs : Rat) = (T : Rat) := by
  by_cases h0 : T = 0
  · subst h0; simp
  · rw [hb h0]
    by_cases h : T < 0
    · obtain ⟨n, rfl⟩ : ∃ n : Nat, T = -(n : Int) := ⟨T.natAbs, by omega⟩
      have : decide (-(n : Int) < 0) = true := by simpa using h
      rw [this, Int.natAbs_neg, Int.natAbs_natCast, Rat.intCast_neg, Rat.intCast_natCast]
      simp [sg]
      grind
    · obtain ⟨n, rfl⟩ : ∃ n : Nat, T = (n : Int) := ⟨T.natAbs, by omega⟩
      have : ¬ ((n : Int) < 0) := by omega
      simp [this, sg, Rat.intCast_natCast]

theorem sum_val (s t : Bool) (m n : Nat) (i j : Int) : ∃ c q base, Datum.sum (.number s m i) (.number t n j) = some (.number c q base) ∧
    sg c * q * p2 base = sg s * m * p2 i + sg t * n * p2 j := by
  refine ⟨_, _, _, rfl, ?_⟩
  rw [total_val]
  · simp only [Rat.intCast_add, signed_val]
    have e1 : p2 i = p2 ((i - min i j).toNat : Int) * p2 (min i j) := by rw [← p2_add]; congr 1; omega
    have e2 : p2 j = p2 ((j - min i j).toNat : Int) * p2 (min i j) := by rw [← p2_add]; congr 1; omega
    rw [e1, e2]
    grind
  · intro h; rw [if_neg h]

theorem abs_mag {c : Bool} {q : Nat} {b : Int} {M : Rat} (h1 : -M ≤ sg c * q * p2 b) (h2 : sg c * q * p2 b ≤ M) : q * p2 b ≤ M := by
  rcases sg_pm c with h | h <;> rw [h] at h1 h2 <;> grind

theorem rv_read {w : Nat} {s m p} (h : double.read w = .number s m p) : rv w = sg s * m * p2 p := by
  unfold rv; rw [h]; rfl

theorem add_rnd {x y : Nat} (hx : Fin x) (hy : Fin y) (h1 : -p2 1023 ≤ rv x + rv y) (h2 : rv x + rv y ≤ p2 1023) :
    ∃ z, double.add x y = some z ∧ Rnd (rv x + rv y) z ∧ IsNear (rv x + rv y) z := by
  obtain ⟨m, i, ex⟩ := read_fin hx
  obtain ⟨n, j, ey⟩ := read_fin hy
  obtain ⟨c, q, b, es, ev⟩ := sum_val (x / 2 ^ 63 % 2 == 1) (y / 2 ^ 63 % 2 == 1) m n i j
  rw [rv_read ex, rv_read ey, ← ev] at h1 h2 ⊢
  refine ⟨double.nearest c q b, ?_, (rnd_nearest c q b (abs_mag h1 h2)).1, c, q, b, rfl, rfl⟩
  unfold Format.add
  rw [ex, ey, es]; rfl

theorem sub_rnd {x y : Nat} (hx : Fin x) (hy : Fin y) (h1 : -p2 1023 ≤ rv x - rv y) (h2 : rv x - rv y ≤ p2 1023) :
    ∃ z, double.sub x y = some z ∧ Rnd (rv x - rv y) z ∧ IsNear (rv x - rv y) z := by
  obtain ⟨m, i, ex⟩ := read_fin hx
  obtain ⟨n, j, ey⟩ := read_fin hy
  obtain ⟨c, q, b, es, ev⟩ := sum_val (x / 2 ^ 63 % 2 == 1) (!(y / 2 ^ 63 % 2 == 1)) m n i j
  have hneg : sg (!(y / 2 ^ 63 % 2 == 1)) = - sg (y / 2 ^ 63 % 2 == 1) := by
    cases (y / 2 ^ 63 % 2 == 1) <;> simp [sg]
  have e : rv x - rv y = sg c * q * p2 b := by
    rw [ev, hneg, rv_read ex, rv_read ey]; grind
  rw [e] at h1 h2 ⊢
  refine ⟨double.nearest c q b, ?_, (rnd_nearest c q b (abs_mag h1 h2)).1, c, q, b, rfl, rfl⟩
  unfold Format.sub
  rw [ex, ey]
  show (Datum.sum _ (.number _ n j)).map _ = _
  rw [es]; rfl

theorem mul_rnd {x y : Nat} (hx : Fin x) (hy : Fin y) (h1 : -p2 1023 ≤ rv x * rv y) (h2 : rv x * rv y ≤ p2 1023) :
    ∃ z, double.mul x y = some z ∧ Rnd (rv x * rv y) z ∧ IsNear (rv x * rv y) z ∧ (z / 2 ^ 63 % 2 == 1) = ((x / 2 ^ 63 % 2 == 1) ^^ (y / 2 ^ 63 % 2 == 1)) := by
  obtain ⟨m, i, ex⟩ := read_fin hx
  obtain ⟨n, j, ey⟩ := read_fin hy
  generalize (x / 2 ^ 63 % 2 == 1) = s at *
  generalize (y / 2 ^ 63 % 2 == 1) = t at *
  have e : rv x * rv y = sg (s ^^ t) * ((m * n : Nat) : Rat) * p2 (i + j) := by
    rw [rv_read ex, rv_read ey, p2_add, Rat.natCast_mul]
    cases s <;> cases t <;> simp [sg] <;> grind
  rw [e] at h1 h2 ⊢
  refine ⟨double.nearest (s ^^ t) (m * n) (i + j), ?_, (rnd_nearest _ _ _ (abs_mag h1 h2)).1, ⟨_, _, _, rfl, rfl⟩, (rnd_nearest _ _ _ (abs_mag h1 h2)).2⟩
  unfold Format.mul
  rw [ex, ey]; rfl

theorem order_fin {x y : Nat} (hx : Fin x) (hy : Fin y) :
    (rv x < rv y ∧ double.order x y = some .lt) ∨ (rv x = rv y ∧ double.order x y = some .eq) ∨ (rv y < rv x ∧ double.order x y = some .gt) := by
  obtain ⟨m, i, ex⟩ := read_fin hx
  obtain ⟨n, j, ey⟩ := read_fin hy
  rw [rv_read ex, rv_read ey]
  unfold Format.order
  rw [ex, ey]
  generalize (x / 2 ^ 63 % 2 == 1) = s
  generalize (y / 2 ^ 63 % 2 == 1) = t
  simp only [Datum.order]
  have e1 : sg s * m * p2 i = ((Ieee.signed s m (i - min i j).toNat : Int) : Rat) * p2 (min i j) := by
    rw [signed_val, show p2 i = p2 ((i - min i j).toNat : Int) * p2 (min i j) by rw [← p2_add]; congr 1; omega]; grind
  have e2 : sg t * n * p2 j = ((Ieee.signed t n (j - min i j).toNat : Int) : Rat) * p2 (min i j) := by
    rw [signed_val, show p2 j = p2 ((j - min i j).toNat : Int) * p2 (min i j) by rw [← p2_add]; congr 1; omega]; grind
  rw [e1, e2]
  generalize Ieee.signed s m (i - min i j).toNat = a
  generalize Ieee.signed t n (j - min i j).toNat = b
  have pb := p2_pos (min i j)
  rcases Int.lt_trichotomy a b with h | h | h
  · left
    refine ⟨Rat.mul_lt_mul_of_pos_right (by exact_mod_cast h) pb, ?_⟩
    simp [Int.compare_eq_lt.2 h]
  · right; left
    subst h; simp
  · right; right
    refine ⟨Rat.mul_lt_mul_of_pos_right (by exact_mod_cast h) pb, ?_⟩
    simp [Int.compare_eq_gt.2 h]

/-! ### exact results -/
theorem nearest_exact (neg : Bool) (mag : Nat) (place : Int) (hm : mag < 2 ^ 53) (hp : -1074 ≤ place) (h : mag * p2 place ≤ p2 1023) :
    rv (double.nearest neg mag place) = sg neg * mag * p2 place := by
  by_cases h0 : mag = 0
  · subst h0
    rw [show double.nearest neg 0 place = double.word neg 0 by simp [Format.nearest], rv_word_zero]; simp
  · obtain ⟨E, K, hK, hEK, hw, n1, n2, nd, nu⟩ := nearest_spec neg mag place h0
    have rm : (mag : Rat) < ((2 ^ 53 : Nat) : Rat) := by exact_mod_cast hm
    have hlt : mag * p2 place < p2 (((53 : Nat) : Int) + place) := by
      rw [p2_add, p2_nat]; exact Rat.mul_lt_mul_of_pos_right rm (p2_pos _)
    have hle : (E : Int) - 1074 ≤ place := by
      rcases nd with hE | hE
      · omega
      · apply Classical.byContradiction
        intro hc
        have := p2_le (show ((53 : Nat) : Int) + place ≤ (E : Int) - 1022 by omega)
        grind
    obtain ⟨d, hd⟩ : ∃ d : Nat, place = (d : Int) + ((E : Int) - 1074) := ⟨(place - ((E : Int) - 1074)).toNat, by omega⟩
    have hv : (mag : Rat) * p2 place = ((mag * 2 ^ d : Nat) : Rat) * p2 ((E : Int) - 1074) := by
      rw [hd, p2_add, p2_nat, Rat.natCast_mul]; grind
    have pl := p2_pos ((E : Int) - 1074)
    have hKe : K = mag * 2 ^ d := by
      generalize mag * 2 ^ d = k' at hv
      have h3 : (2 * k' : Rat) * p2 ((E : Int) - 1074) ≤ (2 * K + 1) * p2 ((E : Int) - 1074) := by grind
      have h4 := Rat.le_of_mul_le_mul_right h3 pl
      have h5 : 2 * k' ≤ 2 * K + 1 := by exact_mod_cast h4
      have h6 : (2 * K : Rat) * p2 ((E : Int) - 1074) ≤ (2 * k' + 1) * p2 ((E : Int) - 1074) := by grind
      have h7 := Rat.le_of_mul_le_mul_right h6 pl
      have h8 : 2 * K ≤ 2 * k' + 1 := by exact_mod_cast h7
      omega
    have hr := (rnd_nearest neg mag place h).1.fin
    rw [hw] at hr ⊢
    have hfin : E * 2 ^ 52 + K < 2047 * 2 ^ 52 := by
      apply Classical.byContradiction
      intro hc
      unfold Fin at hr
      rw [word_mod _ _ (by omega)] at hr
      omega
    rw [Nat.min_eq_left (by omega), rung_val neg E K hK hEK hfin, hKe]
    grind

/-- Every 'n * 2^e' with n at most 2^53 is a finite number of the format. -/
theorem rep (neg : Bool) (n : Nat) (e : Int) (hn : n ≤ 2 ^ 53) (he : -1074 ≤ e) (h : n * p2 e ≤ p2 1023) : ∃ t, Fin t ∧ rv t = sg neg * n * p2 e := by
  by_cases h3 : n < 2 ^ 53
  · exact ⟨_, (rnd_nearest neg n e h).1.fin, nearest_exact neg n e h3 he h⟩
  · have hn' : n = 2 ^ 53 := by omega
    have hq : (n : Rat) * p2 e = ((2 ^ 52 : Nat) : Rat) * p2 (1 + e) := by
      rw [hn', p2_add, p2_one]
      have : (((2 ^ 53 : Nat) : Rat)) = 2 * ((2 ^ 52 : Nat) : Rat) := by decide +kernel
      rw [this]; grind
    rw [hq] at h
    refine ⟨_, (rnd_nearest neg (2 ^ 52) (1 + e) h).1.fin, ?_⟩
    rw [nearest_exact neg (2 ^ 52) (1 + e) (by omega) (by omega) h]
    grind

theorem rep_int (N : Int) (h1 : -(2 ^ 53 : Int) ≤ N) (h2 : N ≤ 2 ^ 53) : ∃ t, Fin t ∧ rv t = (N : Rat) := by
  have hb : (N.natAbs : Rat) * p2 0 ≤ p2 1023 := by
    rw [p2_zero]
    have h3 : N.natAbs ≤ 2 ^ 53 := by omega
    have h4 : (N.natAbs : Rat) ≤ p2 (53 : Nat) := by rw [p2_nat]; exact_mod_cast h3
    have := p2_le (show ((53 : Nat) : Int) ≤ 1023 by omega)
    grind
  obtain ⟨t, ht, e⟩ := rep (decide (N < 0)) N.natAbs 0 (by omega) (by omega) hb
  refine ⟨t, ht, ?_⟩
  rw [e, p2_zero, total_val N _ (fun _ => rfl)]; grind

/-- Two finite words of one number have one rung; and one sign, unless they are zeros. -/
theorem rv_inj {x y : Nat} (hx : Fin x) (hy : Fin y) (h : rv x = rv y) : x % 2 ^ 63 = y % 2 ^ 63 ∧ (x / 2 ^ 63 % 2 = y / 2 ^ 63 % 2 ∨ rv x = 0) := by
  obtain ⟨E, K, hK, hEK, hxr, ex⟩ := fin_form hx
  obtain ⟨E', K', hK', hEK', hyr, ey⟩ := fin_form hy
  have pa := mulp_nn K ((E : Int) - 1074)
  have pb := mulp_nn K' ((E' : Int) - 1074)
  have hz : ∀ (n : Nat) (e : Int), (n : Rat) * p2 e = 0 → n = 0 := by
    intro n e h
    have pe := p2_pos e
    have : (n : Rat) = 0 := by
      rcases Rat.mul_eq_zero.1 h with h | h
      · exact h
      · grind
    exact_mod_cast this
  have hkey : (K : Rat) * p2 ((E : Int) - 1074) = K' * p2 ((E' : Int) - 1074) → E = E' ∧ K = K' := by
    intro h
    have hmain : ∀ (A B k l : Nat), k < 2 ^ 53 → (B = 0 ∨ 2 ^ 52 ≤ l) → A < B → (k : Rat) * p2 ((A : Int) - 1074) = l * p2 ((B : Int) - 1074) → False := by
      intro A B k l hk hl hlt he
      have hl2 : 2 ^ 52 ≤ l := by omega
      have r1 : (k : Rat) < ((2 ^ 53 : Nat) : Rat) := by exact_mod_cast hk
      have r2 : ((2 ^ 52 : Nat) : Rat) ≤ l := by exact_mod_cast hl2
      have s1 := Rat.mul_lt_mul_of_pos_right r1 (p2_pos ((A : Int) - 1074))
      have s2 := Rat.mul_le_mul_of_nonneg_right r2 (Rat.le_of_lt (p2_pos ((B : Int) - 1074)))
      rw [← p2_nat, ← p2_add] at s1 s2
      have := p2_le (show ((53 : Nat) : Int) + ((A : Int) - 1074) ≤ ((52 : Nat) : Int) + ((B : Int) - 1074) by omega)
      grind
    rcases Nat.lt_trichotomy E E' with hl | hl | hl
    · exact (hmain E E' K K' hK hEK' hl h).elim
    · subst hl
      refine ⟨rfl, ?_⟩
      have := p2_pos ((E : Int) - 1074)
      have h5 : (K : Rat) = K' := by
        have a1 := Rat.le_of_mul_le_mul_right (show (K : Rat) * p2 ((E : Int) - 1074) ≤ K' * p2 ((E : Int) - 1074) by grind) this
        have a2 := Rat.le_of_mul_le_mul_right (show (K' : Rat) * p2 ((E : Int) - 1074) ≤ K * p2 ((E : Int) - 1074) by grind) this
        grind
      exact_mod_cast h5
    · exact (hmain E' E K' K hK' hEK hl h.symm).elim
  by_cases hs : x / 2 ^ 63 % 2 = y / 2 ^ 63 % 2
  · have : (K : Rat) * p2 ((E : Int) - 1074) = K' * p2 ((E' : Int) - 1074) := by
      rw [ex, ey, hs] at h
      rcases sg_pm (y / 2 ^ 63 % 2 == 1) with hh | hh <;> rw [hh] at h <;> grind
    obtain ⟨e1, e2⟩ := hkey this
    exact ⟨by rw [hxr, hyr, e1, e2], Or.inl hs⟩
  · have h2 : sg (x / 2 ^ 63 % 2 == 1) = - sg (y / 2 ^ 63 % 2 == 1) := by
      have la : x / 2 ^ 63 % 2 < 2 := Nat.mod_lt _ (by omega)
      have lb : y / 2 ^ 63 % 2 < 2 := Nat.mod_lt _ (by omega)
      generalize x / 2 ^ 63 % 2 = a at *
      generalize y / 2 ^ 63 % 2 = b at *
      have : (a = 0 ∧ b = 1) ∨ (a = 1 ∧ b = 0) := by omega
      rcases this with ⟨rfl, rfl⟩ | ⟨rfl, rfl⟩ <;> simp [sg]
    rw [ex, ey, h2] at h
    have hsum : (K : Rat) * p2 ((E : Int) - 1074) = 0 ∧ (K' : Rat) * p2 ((E' : Int) - 1074) = 0 := by
      rcases sg_pm (y / 2 ^ 63 % 2 == 1) with hh | hh <;> rw [hh] at h <;> grind
    obtain ⟨e1, e2⟩ := hkey (by rw [hsum.1, hsum.2])
    refine ⟨by rw [hxr, hyr, e1, e2], Or.inr ?_⟩
    rw [ex]; grind

theorem Rnd.zero {v : Rat} {z : Nat} (h : Rnd v z) (e : v = 0) : rv z = 0 := by
  have hz : Fin 0 := by unfold Fin; omega
  have e0 : rv 0 = 0 := by have := rv_word_zero false; exact this
  have := h.exact hz (by rw [e0, e])
  rw [this, e]

/-! ### the nearest word goes by the value alone; it is odd; it doubles -/
theorem cut_two (neg : Bool) (m d : Nat) (hm : m ≠ 0) : Toward.even.cut neg (2 * m) (d + 1) = Toward.even.cut neg m d := by
  unfold Toward.cut
  have hl : (2 * m).log2 = m.log2 + 1 := Nat.log2_two_mul hm
  simp only [Nat.one_shiftLeft, hl]
  rw [show min (d + 1) (m.log2 + 1 + 2) = min d (m.log2 + 2) + 1 by omega, Nat.pow_succ, Nat.mul_comm _ 2]
  generalize 2 ^ min d (m.log2 + 2) = G
  rw [Nat.mul_div_mul_left _ _ (by omega), Nat.mul_mod_mul_left]
  have e1 : (decide (2 * G < 2 * (2 * (m % G)))) = decide (G < 2 * (m % G)) := by
    apply Bool.eq_iff_iff.2; simp
  have e2 : (2 * G == 2 * (2 * (m % G))) = (G == 2 * (m % G)) := by
    apply Bool.eq_iff_iff.2; simp; omega
  rw [e1, e2]

theorem nearest_two (neg : Bool) (m : Nat) (p : Int) : double.nearest neg (2 * m) p = double.nearest neg m (p + 1) := by
  by_cases hm : m = 0
  · subst hm; simp [Format.nearest]
  · unfold Format.nearest
    rw [if_neg hm, if_neg (by omega)]
    have hl : (2 * m).log2 = m.log2 + 1 := Nat.log2_two_mul hm
    simp only [fb, lp, bi, ir, hl]
    rw [show p + ((m.log2 + 1 : Nat) : Int) - (52 : Nat) = p + 1 + (m.log2 : Int) - (52 : Nat) by omega]
    generalize max (p + 1 + (m.log2 : Int) - (52 : Nat)) (-1074) = last
    have e : Toward.even.cut neg ((2 * m) <<< (p - last).toNat) (last - p).toNat = Toward.even.cut neg (m <<< (p + 1 - last).toNat) (last - (p + 1)).toNat := by
      by_cases hp : last ≤ p
      · rw [show (last - p).toNat = 0 by omega, show (last - (p + 1)).toNat = 0 by omega, show (p + 1 - last).toNat = (p - last).toNat + 1 by omega,
          Nat.shiftLeft_eq, Nat.shiftLeft_eq, Nat.pow_succ]
        congr 1
        rw [Nat.mul_comm (2 ^ (p - last).toNat) 2, ← Nat.mul_assoc, Nat.mul_comm 2 m]
      · rw [show (p - last).toNat = 0 by omega, show (p + 1 - last).toNat = 0 by omega, Nat.shiftLeft_zero, Nat.shiftLeft_zero,
          show (last - p).toNat = (last - (p + 1)).toNat + 1 by omega, cut_two _ _ _ hm]
    rw [e]

theorem nearest_pow (neg : Bool) (m : Nat) (p : Int) : ∀ k : Nat, double.nearest neg (m * 2 ^ k) p = double.nearest neg m (p + k)
  | 0 => by simp
  | k + 1 => by
    rw [Nat.pow_succ, ← Nat.mul_assoc, Nat.mul_comm _ 2, nearest_two, nearest_pow neg m (p + 1) k]
    congr 1; omega

theorem nearest_value (neg : Bool) (m n : Nat) (p q : Int) (h : (m : Rat) * p2 p = n * p2 q) : double.nearest neg m p = double.nearest neg n q := by
  have key : ∀ (m n : Nat) (p q : Int), p ≤ q → (m : Rat) * p2 p = n * p2 q → double.nearest neg m p = double.nearest neg n q := by
    intro m n p q hpq h
    obtain ⟨d, rfl⟩ : ∃ d : Nat, q = p + d := ⟨(q - p).toNat, by omega⟩
    have pp := p2_pos p
    have e : (m : Rat) = ((n * 2 ^ d : Nat) : Rat) := by
      rw [p2_add, p2_nat] at h
      rw [Rat.natCast_mul]
      have a1 := Rat.le_of_mul_le_mul_right (show (m : Rat) * p2 p ≤ (n * ((2 ^ d : Nat) : Rat)) * p2 p by grind) pp
      have a2 := Rat.le_of_mul_le_mul_right (show (n * ((2 ^ d : Nat) : Rat)) * p2 p ≤ m * p2 p by grind) pp
      grind
    have e' : m = n * 2 ^ d := by exact_mod_cast e
    rw [e', nearest_pow]
  by_cases hpq : p ≤ q
  · exact key m n p q hpq h
  · exact (key n m q p (by omega) h.symm).symm

theorem rv_neg_word (neg : Bool) (E K : Nat) (hK : K ≤ 2 ^ 53) (hE : E = 0 ∨ 2 ^ 52 ≤ K) (hf : E * 2 ^ 52 + K < 2047 * 2 ^ 52) :
    rv (double.word (!neg) (E * 2 ^ 52 + K)) = - rv (double.word neg (E * 2 ^ 52 + K)) := by
  rw [rung_val _ E K hK hE hf, rung_val _ E K hK hE hf]
  cases neg <;> simp [sg] <;> grind

theorem mag_zero {m : Nat} {p : Int} (h : (m : Rat) * p2 p = 0) : m = 0 := by
  rcases Rat.mul_eq_zero.1 h with h | h
  · exact_mod_cast h
  · have := p2_pos p; grind

theorem nearest_zero (neg : Bool) (p : Int) : double.nearest neg 0 p = double.word neg 0 := by simp [Format.nearest]

theorem IsNear.det {v : Rat} {z z' : Nat} (h : IsNear v z) (h' : IsNear v z') : rv z = rv z' := by
  obtain ⟨s, m, p, e, rfl⟩ := h
  obtain ⟨t, n, q, e', rfl⟩ := h'
  have a := mulp_nn m p
  have b := mulp_nn n q
  by_cases hst : s = t
  · subst hst
    rw [nearest_value s m n p q]
    rcases sg_pm s with hs | hs <;> rw [hs] at e e' <;> grind
  · have hz : (m : Rat) * p2 p = 0 ∧ (n : Rat) * p2 q = 0 := by
      rcases sg_cases s with ⟨h1, hs⟩ | ⟨h1, hs⟩ <;> rcases sg_cases t with ⟨h2, ht⟩ | ⟨h2, ht⟩ <;> rw [hs] at e <;> rw [ht] at e' <;> subst h1 <;> subst h2 <;> grind
    obtain rfl := mag_zero hz.1
    obtain rfl := mag_zero hz.2
    rw [nearest_zero, nearest_zero, rv_word_zero, rv_word_zero]

/-- The rung of the nearest word, whatever the sign. -/
def nrung (m : Nat) (p : Int) : Nat :=
  if m = 0 then 0 else
  min ((max (p + m.log2 - (52 : Nat)) (-1074) - -1074).toNat * 2 ^ 52 +
    Toward.even.cut false (m <<< (p - max (p + m.log2 - (52 : Nat)) (-1074)).toNat) (max (p + m.log2 - (52 : Nat)) (-1074) - p).toNat) (2047 * 2 ^ 52)

theorem nearest_rung (s : Bool) (m : Nat) (p : Int) : double.nearest s m p = double.word s (nrung m p) := by
  unfold Format.nearest nrung
  simp only [fb, lp, bi, ir]
  by_cases hm : m = 0
  · rw [if_pos hm, if_pos hm]
  · rw [if_neg hm, if_neg hm]; rfl

theorem nrung_le (m : Nat) (p : Int) : nrung m p ≤ 2047 * 2 ^ 52 := by
  unfold nrung
  split
  · omega
  · exact Nat.min_le_right _ _

theorem nrung_spec {s : Bool} (m : Nat) (p : Int) (E K : Nat) (h : double.nearest s m p = double.word s (min (E * 2 ^ 52 + K) (2047 * 2 ^ 52))) :
    nrung m p = min (E * 2 ^ 52 + K) (2047 * 2 ^ 52) := by
  rw [nearest_rung] at h
  have hl := nrung_le m p
  have h2 : double.word s (nrung m p) % 2 ^ 63 = double.word s (min (E * 2 ^ 52 + K) (2047 * 2 ^ 52)) % 2 ^ 63 := by rw [h]
  rw [word_mod _ _ (by omega), word_mod _ _ (by omega)] at h2
  exact h2

/-- Of two signs, one value: the numbers are opposite. -/
theorem nearest_opp (s : Bool) (m : Nat) (p : Int) (hf : Fin (double.nearest s m p)) : rv (double.nearest (!s) m p) = - rv (double.nearest s m p) ∧ Fin (double.nearest (!s) m p) := by
  by_cases hm : m = 0
  · subst hm; rw [nearest_zero, nearest_zero, rv_word_zero, rv_word_zero]
    refine ⟨by grind, ?_⟩
    unfold Fin; rw [word_mod _ _ (by omega)]; omega
  · obtain ⟨E, K, hK, hEK, hw, -, -, -, -⟩ := nearest_spec s m p hm
    have hw2 : double.nearest (!s) m p = double.word (!s) (min (E * 2 ^ 52 + K) (2047 * 2 ^ 52)) := by
      rw [nearest_rung, nrung_spec m p E K hw]
    have hlt : min (E * 2 ^ 52 + K) (2047 * 2 ^ 52) < 2 ^ 63 := by omega
    have hfin : E * 2 ^ 52 + K < 2047 * 2 ^ 52 := by
      rw [hw] at hf; unfold Fin at hf; rw [word_mod _ _ hlt] at hf; omega
    rw [hw2, hw, Nat.min_eq_left (by omega)]
    refine ⟨rv_neg_word s E K hK hEK hfin, ?_⟩
    unfold Fin; rw [word_mod _ _ (by omega)]; omega

theorem IsNear.opp {v v' : Rat} {z z' : Nat} (h : IsNear v z) (h' : IsNear v' z') (e : v' = -v) (hf : Fin z) : rv z' = - rv z := by
  obtain ⟨s, m, p, ev, rfl⟩ := h
  have h2 : IsNear v' (double.nearest (!s) m p) := ⟨!s, m, p, by rw [e, ev]; cases s <;> simp [sg] <;> grind, rfl⟩
  rw [IsNear.det h' h2, (nearest_opp s m p hf).1]

theorem min_up {E K E' K' : Nat} (h : min (E' * 2 ^ 52 + K') (2047 * 2 ^ 52) = min (E * 2 ^ 52 + K) (2047 * 2 ^ 52)) (hf : E * 2 ^ 52 + K < 2047 * 2 ^ 52) :
    min ((E' + 1) * 2 ^ 52 + K') (2047 * 2 ^ 52) = min ((E + 1) * 2 ^ 52 + K) (2047 * 2 ^ 52) := by
  have e : E' * 2 ^ 52 + K' = E * 2 ^ 52 + K := by omega
  have e1 : (E' + 1) * 2 ^ 52 + K' = (E + 1) * 2 ^ 52 + K := by
    rw [Nat.succ_mul, Nat.succ_mul, Nat.add_right_comm, e, Nat.add_right_comm]
  rw [e1]

theorem min_lt_of {X : Nat} (h : min X (2047 * 2 ^ 52) < 2047 * 2 ^ 52) : X < 2047 * 2 ^ 52 := by omega

/-- In the normal range, or where nothing is lost below, the nearest word of the doubled value is the doubled number. -/
theorem nearest_dbl (s : Bool) (m : Nat) (p : Int) (h1 : -1074 ≤ p ∨ p2 (-1022) ≤ m * p2 p) (h2 : m * p2 p ≤ p2 1022) :
    rv (double.nearest s m (p + 1)) = 2 * rv (double.nearest s m p) := by
  by_cases hm : m = 0
  · subst hm; rw [nearest_zero, nearest_zero, rv_word_zero]; grind
  · have hd : (m : Rat) * p2 (p + 1) = 2 * (m * p2 p) := by rw [p2_add, p2_one]; grind
    have hf1 : (m : Rat) * p2 p ≤ p2 1023 := by
      have := p2_le (show (1022 : Int) ≤ 1023 by omega); grind
    have hf2 : (m : Rat) * p2 (p + 1) ≤ p2 1023 := by
      rw [hd, show (1023 : Int) = 1 + 1022 by omega, p2_add, p2_one]; grind
    have hlo : p2 (m.log2 + p) ≤ m * p2 p := by
      have rlo : p2 m.log2 ≤ m := by rw [p2_nat]; exact_mod_cast Nat.log2_self_le hm
      rw [p2_add]; exact Rat.mul_le_mul_of_nonneg_right rlo (Rat.le_of_lt (p2_pos _))
    have hhi : m * p2 p < p2 ((m.log2 + 1 : Nat) + p) := by
      have rhi : (m : Rat) < p2 (m.log2 + 1 : Nat) := by rw [p2_nat]; exact_mod_cast Nat.lt_log2_self
      rw [p2_add]; exact Rat.mul_lt_mul_of_pos_right rhi (p2_pos _)
    by_cases hn : -1022 ≤ p + m.log2
    · -- normal: the rung goes up by one binade
      have w1 := (rnd_nearest s m p hf1).1.fin
      have w2 := (rnd_nearest s m (p + 1) hf2).1.fin
      obtain ⟨E, K, hK, hEK, hw, n1, n2, nd, nu⟩ := nearest_spec s m p hm
      have key : double.nearest s m (p + 1) = double.word s (min ((E + 1) * 2 ^ 52 + K) (2047 * 2 ^ 52)) ∧ E * 2 ^ 52 + K < 2047 * 2 ^ 52 := by
        have hfin : E * 2 ^ 52 + K < 2047 * 2 ^ 52 := by
          rw [hw] at w1; unfold Fin at w1; rw [word_mod _ _ (by omega)] at w1; omega
        refine ⟨?_, hfin⟩
        have hr := nrung_spec m p E K hw
        rw [nearest_rung]
        refine congrArg (double.word s) ?_
        unfold nrung at hr ⊢
        rw [if_neg hm] at hr ⊢
        have hl1 : max (p + (m.log2 : Int) - (52 : Nat)) (-1074) = p + (m.log2 : Int) - 52 := by omega
        have hl2 : max (p + 1 + (m.log2 : Int) - (52 : Nat)) (-1074) = p + (m.log2 : Int) - 51 := by omega
        rw [hl1] at hr
        rw [hl2]
        rw [show (p + 1 - (p + (m.log2 : Int) - 51)) = (p - (p + (m.log2 : Int) - 52)) by omega,
          show (p + (m.log2 : Int) - 51 - (p + 1)) = (p + (m.log2 : Int) - 52 - p) by omega,
          show (p + (m.log2 : Int) - 51 - -1074).toNat = (p + (m.log2 : Int) - 52 - -1074).toNat + 1 by omega]
        generalize Toward.even.cut false (m <<< (p - (p + (m.log2 : Int) - 52)).toNat) (p + (m.log2 : Int) - 52 - p).toNat = K' at hr ⊢
        generalize (p + (m.log2 : Int) - 52 - -1074).toNat = E' at hr ⊢
        exact min_up hr hfin
      obtain ⟨hw2, hfin⟩ := key
      have hfin2 : (E + 1) * 2 ^ 52 + K < 2047 * 2 ^ 52 := by
        rw [hw2] at w2; unfold Fin at w2; rw [word_mod _ _ (by omega)] at w2; exact min_lt_of w2
      have hK52 : 2 ^ 52 ≤ K := by
        rcases hEK with h0 | h0
        · subst h0
          have q1 : p2 (-1022) ≤ p2 (m.log2 + p) := p2_le (by omega)
          have q2 : p2 (-1022) = ((2 ^ 52 : Nat) : Rat) * p2 (((0 : Nat) : Int) - 1074) := by
            rw [← p2_nat, ← p2_add, show ((52 : Nat) : Int) + (((0 : Nat) : Int) - 1074) = -1022 by omega]
          have pl := p2_pos (((0 : Nat) : Int) - 1074)
          have h1 : (2 * ((2 ^ 52 : Nat) : Rat)) * p2 (((0 : Nat) : Int) - 1074) ≤ (2 * K + 1) * p2 (((0 : Nat) : Int) - 1074) := by grind
          have h2 := Rat.le_of_mul_le_mul_right h1 pl
          have h3 : 2 * 2 ^ 52 ≤ 2 * K + 1 := by exact_mod_cast h2
          omega
        · exact h0
      rw [hw2, hw, Nat.min_eq_left (by omega), Nat.min_eq_left (by omega), rung_val s (E + 1) K hK (Or.inr hK52) hfin2, rung_val s E K hK hEK hfin,
        show ((E + 1 : Nat) : Int) - 1074 = 1 + ((E : Int) - 1074) by omega, p2_add, p2_one]
      grind
    · -- below the normal range the value is exact
      have hp : -1074 ≤ p := by
        rcases h1 with h1 | h1
        · exact h1
        · have := p2_le (show ((m.log2 + 1 : Nat) : Int) + p ≤ -1022 by omega)
          grind
      have hm53 : m < 2 ^ 53 := by
        have : m.log2 ≤ 51 := by omega
        have h3 : m < 2 ^ (m.log2 + 1) := Nat.lt_log2_self
        have h4 : 2 ^ (m.log2 + 1) ≤ 2 ^ 53 := Nat.pow_le_pow_right (by omega) (by omega)
        omega
      rw [nearest_exact s m p hm53 hp hf1, nearest_exact s m (p + 1) hm53 (by omega) hf2, p2_add, p2_one]
      grind

/-! ### division -/
theorem four_le {a b : Int} (h : 4 * a ≤ 4 * b + 2) : 4 * a ≤ 4 * b := by omega
theorem four_le' {a b : Int} (h : 4 * b + 2 ≤ 4 * a) : 4 * b + 4 ≤ 4 * a := by omega

theorem div_rnd {x y : Nat} (hx : Fin x) (hy : Fin y) (hy0 : rv y ≠ 0) (h1 : -p2 1023 ≤ rv x / rv y) (h2 : rv x / rv y ≤ p2 1023) :
    ∃ z, double.div x y = some z ∧ Rnd (rv x / rv y) z ∧ (z / 2 ^ 63 % 2 == 1) = ((x / 2 ^ 63 % 2 == 1) ^^ (y / 2 ^ 63 % 2 == 1)) := by
  obtain ⟨m, i, ex⟩ := read_fin hx
  obtain ⟨n, j, ey⟩ := read_fin hy
  generalize (x / 2 ^ 63 % 2 == 1) = s at *
  generalize (y / 2 ^ 63 % 2 == 1) = t at *
  have hn : n ≠ 0 := by
    intro h; apply hy0; rw [rv_read ey, h]; simp
  have hnp : (0 : Rat) < n := by exact_mod_cast Nat.pos_of_ne_zero hn
  have pj := p2_pos j
  have hval : rv x / rv y = sg (s ^^ t) * ((m * p2 i) / (n * p2 j)) := by
    rw [rv_read ex, rv_read ey]
    have e1 : (1 : Rat) / (-1) = -1 := by decide +kernel
    have hp : (n : Rat) * p2 j ≠ 0 := by
      have := Rat.mul_pos hnp pj; grind
    cases s <;> cases t <;> simp [sg] <;> grind
  generalize hmore : 54 + n.log2 - m.log2 = more
  have hdiv : double.div x y = some (double.nearest (s ^^ t) (2 * ((m <<< more) / n) + ((m <<< more) % n != 0).toNat) (i - j - more - 1)) := by
    unfold Format.div
    rw [ex, ey]
    unfold Datum.quotient
    simp only [if_neg hn, fb]
    rw [show 52 + 2 = 54 by rfl, hmore]
    rfl
  refine ⟨_, hdiv, ?_⟩
  rw [hval] at h1 h2 ⊢
  generalize hv : ((m : Rat) * p2 i) / (n * p2 j) = v at *
  have hv0 : 0 ≤ v := by
    rw [← hv, Rat.div_def]
    exact Rat.mul_nonneg (mulp_nn _ _) (Rat.le_of_lt (Rat.inv_pos.2 (Rat.mul_pos hnp pj)))
  have hvle : v ≤ p2 1023 := by
    rcases sg_pm (s ^^ t) with hs | hs <;> rw [hs] at h1 h2 <;> grind
  by_cases hm : m = 0
  · subst hm
    have hz : 2 * ((0 <<< more) / n) + ((0 <<< more) % n != 0).toNat = 0 := by simp
    rw [hz]
    have e0 : v = ((0 : Nat) : Rat) * p2 (i - j - more - 1) := by rw [← hv]; simp [Rat.div_def]
    have hr := rnd_nearest (s ^^ t) 0 (i - j - more - 1) (by rw [← e0]; exact hvle)
    rw [show sg (s ^^ t) * ((0 : Nat) : Rat) * p2 (i - j - more - 1) = sg (s ^^ t) * v by rw [e0]; grind] at hr
    exact hr
  · generalize hD : m <<< more = D at *
    rw [Nat.shiftLeft_eq] at hD
    have hdm := Nat.div_add_mod D n
    have hlt := Nat.mod_lt D (Nat.pos_of_ne_zero hn)
    -- the quotient has at least 54 digits
    have hq : 2 ^ 53 ≤ D / n := by
      rw [Nat.le_div_iff_mul_le (Nat.pos_of_ne_zero hn), ← hD]
      have a1 : n < 2 ^ (n.log2 + 1) := Nat.lt_log2_self
      have a2 : 2 ^ m.log2 ≤ m := Nat.log2_self_le hm
      have a3 : 2 ^ 53 * n ≤ 2 ^ 53 * 2 ^ (n.log2 + 1) := Nat.mul_le_mul_left _ (Nat.le_of_lt a1)
      have a4 : 2 ^ 53 * 2 ^ (n.log2 + 1) ≤ 2 ^ m.log2 * 2 ^ more := by
        rw [← Nat.pow_add, ← Nat.pow_add]; exact Nat.pow_le_pow_right (by omega) (by omega)
      have a5 : 2 ^ m.log2 * 2 ^ more ≤ m * 2 ^ more := Nat.mul_le_mul_right _ a2
      omega
    generalize hq0 : D / n = q0 at *
    generalize hr0 : D % n = r0 at *
    generalize hst : (r0 != 0).toNat = st at *
    have hst1 : st ≤ 1 := by rw [← hst]; exact Bool.toNat_le _
    have hst0 : st = 0 → r0 = 0 := by
      intro h; rw [← hst] at h
      cases hb : (r0 != 0)
      · simpa using hb
      · rw [hb] at h; simp at h
    -- v in units of 2^place
    generalize hpl : i - j - (more : Int) - 1 = pl at *
    have pp := p2_pos pl
    have hDv : v * n = 2 * D * p2 pl := by
      have hDr : (D : Rat) = m * p2 more := by rw [p2_nat, ← hD, Rat.natCast_mul]
      have hpi : p2 i = 2 * p2 more * p2 pl * p2 j := by
        rw [← p2_one, ← p2_add, ← p2_add, ← p2_add, show (1 : Int) + more + pl + j = i by omega]
      have hp : (n : Rat) * p2 j ≠ 0 := by
        have := Rat.mul_pos hnp pj; grind
      have h3 : v * (n * p2 j) = m * p2 i := by rw [← hv]; exact Rat.div_mul_cancel hp
      rw [hpi] at h3
      have h4 : (v * n) * p2 j = (2 * D * p2 pl) * p2 j := by rw [hDr]; grind
      have a1 := Rat.le_of_mul_le_mul_right (show (v * n) * p2 j ≤ (2 * D * p2 pl) * p2 j by grind) pj
      have a2 := Rat.le_of_mul_le_mul_right (show (2 * D * p2 pl) * p2 j ≤ (v * n) * p2 j by grind) pj
      grind
    have hDq : (D : Rat) = n * q0 + r0 := by
      have : n * q0 + r0 = D := hdm
      rw [← this]; simp
    have rr : (r0 : Rat) < n := by exact_mod_cast hlt
    have rr0 : (0 : Rat) ≤ r0 := natCast_nn _
    have vlo : 2 * q0 * p2 pl ≤ v := by
      apply Rat.le_of_mul_le_mul_right _ hnp
      rw [hDv, hDq]
      have := Rat.mul_nonneg rr0 (Rat.le_of_lt pp)
      grind
    have vhi : v < (2 * q0 + 2) * p2 pl := by
      apply Rat.lt_of_mul_lt_mul_right _ (Rat.le_of_lt hnp)
      rw [hDv, hDq]
      have := Rat.mul_lt_mul_of_pos_right rr pp
      grind
    have vex : st = 0 → v = 2 * q0 * p2 pl := by
      intro h
      have h0 := hst0 h
      have h3 : v * n = (2 * q0 * p2 pl) * n := by rw [hDv, hDq, h0]; grind
      have a1 := Rat.le_of_mul_le_mul_right (show v * n ≤ (2 * q0 * p2 pl) * n by grind) hnp
      grind
    have hmag : 2 * q0 + st ≠ 0 := by omega
    obtain ⟨E, K, hK, hEK, hw, n1, n2, nd, nu⟩ := nearest_spec (s ^^ t) (2 * q0 + st) pl hmag
    -- the last kept place is at least two above
    have hbig : p2 (54 + pl) ≤ ((2 * q0 + st : Nat) : Rat) * p2 pl := by
      rw [p2_add]
      apply Rat.mul_le_mul_of_nonneg_right _ (Rat.le_of_lt pp)
      rw [show (54 : Int) = ((54 : Nat) : Int) by rfl, p2_nat]
      exact_mod_cast (show 2 ^ 54 ≤ 2 * q0 + st by omega)
    have hg : pl + 2 ≤ (E : Int) - 1074 := by
      apply Classical.byContradiction
      intro hc
      have := p2_le (show (E : Int) - 1021 ≤ 54 + pl by omega)
      grind
    obtain ⟨g, hgE⟩ : ∃ g : Nat, (E : Int) - 1074 = ((g + 2 : Nat) : Int) + pl := ⟨((E : Int) - 1074 - pl - 2).toNat, by omega⟩
    have hL : p2 ((E : Int) - 1074) = ((4 * 2 ^ g : Nat) : Rat) * p2 pl := by
      rw [hgE, p2_add, p2_nat, Nat.pow_add, Nat.mul_comm (2 ^ g)]
    generalize hG : 2 ^ g = G at *
    -- whole numbers
    have c1 : 2 * K * (4 * G) ≤ 2 * (2 * q0 + st) + 4 * G := by
      rw [hL] at n1
      have : ((2 * K * (4 * G) : Nat) : Rat) * p2 pl ≤ ((2 * (2 * q0 + st) + 4 * G : Nat) : Rat) * p2 pl := by
        simp only [Rat.natCast_mul, Rat.natCast_add] at n1 ⊢; grind
      exact_mod_cast Rat.le_of_mul_le_mul_right this pp
    have c2 : 2 * (2 * q0 + st) ≤ 2 * K * (4 * G) + 4 * G := by
      rw [hL] at n2
      have : ((2 * (2 * q0 + st) : Nat) : Rat) * p2 pl ≤ ((2 * K * (4 * G) + 4 * G : Nat) : Rat) * p2 pl := by
        simp only [Rat.natCast_mul, Rat.natCast_add] at n2 ⊢; grind
      exact_mod_cast Rat.le_of_mul_le_mul_right this pp
    have hKG : 2 * K * (4 * G) = 4 * (2 * (K * G)) := by
      rw [Nat.mul_left_comm, Nat.mul_assoc]
    rw [hKG] at c1 c2
    generalize hX : K * G = X at *
    have hXq : (K : Rat) * (G : Rat) = (X : Rat) := by rw [← hX, Rat.natCast_mul]
    have e4 : ((4 : Nat) : Rat) = 4 := by rfl
    have e8 : ((8 : Nat) : Rat) = 8 := by rfl
    have m1 : 2 * K * p2 ((E : Int) - 1074) ≤ 2 * v + p2 ((E : Int) - 1074) := by
      rw [hL]
      have d1 : 8 * X ≤ 4 * q0 + 4 * G ∨ st = 0 := by omega
      rcases d1 with d1 | d1
      · have d2 : ((8 * X : Nat) : Rat) ≤ ((4 * q0 + 4 * G : Nat) : Rat) := by exact_mod_cast d1
        have d3 := Rat.mul_le_mul_of_nonneg_right d2 (Rat.le_of_lt pp)
        simp only [Rat.natCast_mul, Rat.natCast_add, e4, e8] at d3 ⊢
        have e1 : 2 * (K : Rat) * (4 * G * p2 pl) = 8 * (X : Rat) * p2 pl := by rw [← hXq]; grind
        rw [e1]
        grind
      · have e := vex d1
        have d2 : ((8 * X : Nat) : Rat) ≤ ((4 * q0 + 4 * G : Nat) : Rat) := by exact_mod_cast (show 8 * X ≤ 4 * q0 + 4 * G by omega)
        have d3 := Rat.mul_le_mul_of_nonneg_right d2 (Rat.le_of_lt pp)
        simp only [Rat.natCast_mul, Rat.natCast_add, e4, e8] at d3 ⊢
        have e1 : 2 * (K : Rat) * (4 * G * p2 pl) = 8 * (X : Rat) * p2 pl := by rw [← hXq]; grind
        rw [e1]
        grind
    have m2 : 2 * v ≤ 2 * K * p2 ((E : Int) - 1074) + p2 ((E : Int) - 1074) := by
      rw [hL]
      have d1 : 4 * q0 + 4 ≤ 8 * X + 4 * G ∨ (st = 0 ∧ 4 * q0 ≤ 8 * X + 4 * G) := by omega
      rcases d1 with d1 | ⟨d1, d1'⟩
      · have d2 : ((4 * q0 + 4 : Nat) : Rat) ≤ ((8 * X + 4 * G : Nat) : Rat) := by exact_mod_cast d1
        have d3 := Rat.mul_le_mul_of_nonneg_right d2 (Rat.le_of_lt pp)
        simp only [Rat.natCast_mul, Rat.natCast_add, e4, e8] at d3 ⊢
        have e1 : 2 * (K : Rat) * (4 * G * p2 pl) = 8 * (X : Rat) * p2 pl := by rw [← hXq]; grind
        rw [e1]
        grind
      · have e := vex d1
        have d2 : ((4 * q0 : Nat) : Rat) ≤ ((8 * X + 4 * G : Nat) : Rat) := by exact_mod_cast d1'
        have d3 := Rat.mul_le_mul_of_nonneg_right d2 (Rat.le_of_lt pp)
        simp only [Rat.natCast_mul, Rat.natCast_add, e4, e8] at d3 ⊢
        have e1 : 2 * (K : Rat) * (4 * G * p2 pl) = 8 * (X : Rat) * p2 pl := by rw [← hXq]; grind
        rw [e1]
        grind
    have m3 : E = 0 ∨ p2 ((E : Int) - 1022) ≤ v := by
      rcases nd with h0 | h0
      · exact Or.inl h0
      · right
        have e1 : p2 ((E : Int) - 1022) = ((2 * (2 ^ 53 * G) : Nat) : Rat) * p2 pl := by
          rw [show (E : Int) - 1022 = ((52 : Nat) : Int) + ((E : Int) - 1074) by omega, p2_add, hL, p2_nat, ← Rat.mul_assoc, ← Rat.natCast_mul,
            show 2 ^ 52 * (4 * G) = 2 * (2 ^ 53 * G) by omega]
        rw [e1] at h0 ⊢
        have d1 : 2 * (2 ^ 53 * G) ≤ 2 * q0 + st := by exact_mod_cast Rat.le_of_mul_le_mul_right h0 pp
        have d2 : ((2 * (2 ^ 53 * G) : Nat) : Rat) ≤ ((2 * q0 : Nat) : Rat) := by exact_mod_cast (show 2 * (2 ^ 53 * G) ≤ 2 * q0 by omega)
        have d3 := Rat.mul_le_mul_of_nonneg_right d2 (Rat.le_of_lt pp)
        have d4 : ((2 * q0 : Nat) : Rat) = 2 * (q0 : Rat) := by rw [Rat.natCast_mul]; rfl
        rw [d4] at d3
        grind
    have := rnd_core (s ^^ t) E K v hK hEK m1 m2 m3 hv0 hvle
    rw [hw]
    exact this

/-! ### the sign -/
theorem xor_mod (w : Nat) : (w ^^^ 2 ^ 63) % 2 ^ 63 = w % 2 ^ 63 := by
  rw [Nat.xor_mod_two_pow, Nat.mod_self, Nat.xor_zero]
theorem xor_sign (w : Nat) : ((w ^^^ 2 ^ 63) / 2 ^ 63 % 2 == 1) = !(w / 2 ^ 63 % 2 == 1) := by
  have h1 : (w ^^^ 2 ^ 63) / 2 ^ 63 = w / 2 ^ 63 ^^^ 1 := by
    rw [Nat.xor_div_two_pow]
  have h2 : (w / 2 ^ 63 ^^^ 1) % 2 = (w / 2 ^ 63 % 2) ^^^ 1 := by
    have := Nat.xor_mod_two_pow (a := w / 2 ^ 63) (b := 1) (n := 1)
    simpa using this
  rw [h1, h2]
  have : w / 2 ^ 63 % 2 = 0 ∨ w / 2 ^ 63 % 2 = 1 := by omega
  rcases this with h | h <;> rw [h] <;> decide
theorem neg_fin {w : Nat} (h : Fin w) : Fin (w ^^^ 2 ^ 63) := by unfold Fin at *; rw [xor_mod]; exact h
theorem neg_lt {w : Nat} (h : w < 2 ^ 64) : w ^^^ 2 ^ 63 < 2 ^ 64 := Nat.xor_lt_two_pow h (by decide)
theorem neg_rv {w : Nat} (h : Fin w) : rv (w ^^^ 2 ^ 63) = - rv w := by
  unfold rv
  have hs : ∀ b m p, dval (.number (!b) m p) = - dval (.number b m p) := by
    intro b m p; cases b <;> simp [dval, sg] <;> grind
  by_cases h1 : w % 2 ^ 63 < 2 ^ 52
  · rw [read_sub h1, read_sub (by rw [xor_mod]; exact h1), xor_mod, xor_sign, hs]
  · rw [read_nor h1 h, read_nor (by rw [xor_mod]; exact h1) (by rw [xor_mod]; exact h), xor_mod, xor_sign, hs]

/-! ### numerals -/
theorem u53_eq : u53 = 1 / 9007199254740992 := by unfold u53 p2; decide +kernel
theorem eta_le : eta ≤ 1 / 1000000000000000000000000000000000000000000000000000000000000 := by
  have h : eta ≤ p2 (-200) := p2_le (by omega)
  have e : p2 (-200) ≤ 1 / 1000000000000000000000000000000000000000000000000000000000000 := by unfold p2; decide +kernel
  exact Rat.le_trans h e
theorem big_le : (10000000000000000000000000000000000000000000000000000000000000 : Rat) ≤ p2 1023 := by
  have h : p2 250 ≤ p2 1023 := p2_le (by omega)
  have e : (10000000000000000000000000000000000000000000000000000000000000 : Rat) ≤ p2 250 := by unfold p2; decide +kernel
  exact Rat.le_trans e h
theorem fin_small {w : Nat} (h : w % 2 ^ 63 < 2047 * 2 ^ 52) : Fin w := h

/-- What an order of two words says, for finite ones. -/
theorem lt_iff {x y : Nat} (hx : Fin x) (hy : Fin y) : (double.order x y == some .lt) = decide (rv x < rv y) := by
  rcases order_fin hx hy with ⟨h, e⟩ | ⟨h, e⟩ | ⟨h, e⟩ <;> rw [e] <;> simp <;> grind
theorem gt_iff {x y : Nat} (hx : Fin x) (hy : Fin y) : (double.order x y == some .gt) = decide (rv y < rv x) := by
  rcases order_fin hx hy with ⟨h, e⟩ | ⟨h, e⟩ | ⟨h, e⟩ <;> rw [e] <;> simp <;> grind
theorem eq_iff {x y : Nat} (hx : Fin x) (hy : Fin y) : (double.order x y == some .eq) = decide (rv x = rv y) := by
  rcases order_fin hx hy with ⟨h, e⟩ | ⟨h, e⟩ | ⟨h, e⟩ <;> rw [e] <;> simp <;> grind
theorem le_iff {x y : Nat} (hx : Fin x) (hy : Fin y) : (double.order x y == some .lt || double.order x y == some .eq) = decide (rv x ≤ rv y) := by
  rw [lt_iff hx hy, eq_iff hx hy]; by_cases h : rv x ≤ rv y <;> simp [h] <;> grind
theorem ge_iff {x y : Nat} (hx : Fin x) (hy : Fin y) : (double.order x y == some .gt || double.order x y == some .eq) = decide (rv y ≤ rv x) := by
  rw [gt_iff hx hy, eq_iff hx hy]; by_cases h : rv y ≤ rv x <;> simp [h] <;> grind

/-- A word that lies, by Go's comparisons, between two finite words is finite. -/
theorem fin_between {x lo hi : Nat} (hlo : Fin lo) (hhi : Fin hi) (h1 : (double.order x lo == some .gt || double.order x lo == some .eq) = true)
    (h2 : (double.order x hi == some .lt || double.order x hi == some .eq) = true) : Fin x := by
  obtain ⟨m, i, el⟩ := read_fin hlo
  obtain ⟨n, j, eh⟩ := read_fin hhi
  unfold Format.order at h1 h2
  rw [el] at h1; rw [eh] at h2
  cases hr : double.read x with
  | number s m p => exact fin_of_read hr
  | infinity s => rw [hr] at h1 h2; cases s <;> simp [Datum.order] at h1 h2
  | nan s f => rw [hr] at h1; simp [Datum.order] at h1

theorem mul_abs {x d X E : Rat} (h1 : -X ≤ x) (h2 : x ≤ X) (h3 : -E ≤ d) (h4 : d ≤ E) : -(X * E) ≤ x * d ∧ x * d ≤ X * E := by
  have a := Rat.mul_nonneg (show 0 ≤ X - x by grind) (show 0 ≤ E + d by grind)
  have b := Rat.mul_nonneg (show 0 ≤ X + x by grind) (show 0 ≤ E - d by grind)
  have c := Rat.mul_nonneg (show 0 ≤ X - x by grind) (show 0 ≤ E - d by grind)
  have e := Rat.mul_nonneg (show 0 ≤ X + x by grind) (show 0 ≤ E + d by grind)
  constructor <;> grind

/-! ### doubling by the value -/
/-- A whole number of the least units. -/
def Mult (v : Rat) : Prop := ∃ n : Int, v = n * p2 (-1074)
theorem mult_rv {x : Nat} (h : Fin x) : Mult (rv x) := by
  obtain ⟨E, K, -, -, -, e⟩ := fin_form h
  refine ⟨(if x / 2 ^ 63 % 2 == 1 then -1 else 1) * ((K * 2 ^ E : Nat) : Int), ?_⟩
  rw [e, show (E : Int) - 1074 = (E : Nat) + (-1074) by omega, p2_add, p2_nat]
  rw [Rat.intCast_mul, Rat.intCast_natCast, Rat.natCast_mul]
  cases (x / 2 ^ 63 % 2 == 1) <;> simp [sg] <;> grind
theorem Mult.add {u v : Rat} (h : Mult u) (k : Mult v) : Mult (u + v) := by
  obtain ⟨n, rfl⟩ := h
  obtain ⟨m, rfl⟩ := k
  exact ⟨n + m, by rw [Rat.intCast_add]; grind⟩

theorem IsNear.zero {z : Nat} (h : IsNear 0 z) : rv z = 0 := by
  obtain ⟨s, m, p, e, rfl⟩ := h
  have : (m : Rat) * p2 p = 0 := by
    rcases sg_pm s with hs | hs <;> rw [hs] at e <;> grind
  rw [mag_zero this, nearest_zero, rv_word_zero]

theorem IsNear.dbl {v v' : Rat} {z z' : Nat} (h : IsNear v z) (h' : IsNear v' z') (e : v' = 2 * v) (hc : Mult v ∨ p2 (-1022) ≤ v ∨ v ≤ -p2 (-1022))
    (b1 : -p2 1022 ≤ v) (b2 : v ≤ p2 1022) : rv z' = 2 * rv z := by
  by_cases h0 : v = 0
  · subst h0
    have e0 : v' = 0 := by grind
    subst e0
    rw [h.zero, h'.zero]; grind
  · obtain ⟨s, m, p, ev, rfl⟩ := h
    have hle : (m : Rat) * p2 p ≤ p2 1022 := by
      rw [ev] at b1 b2; exact abs_mag b1 b2
    have hnn := mulp_nn m p
    rcases hc with ⟨n, hn⟩ | hc
    · have hval : (m : Rat) * p2 p = (n.natAbs : Rat) * p2 (-1074) := by
        have p1 := p2_pos (-1074)
        have h1 := mulp_nn n.natAbs (-1074)
        have h2 := total_val n (decide (n < 0)) (fun _ => rfl)
        have h3 : sg (decide (n < 0)) * ((n.natAbs : Rat) * p2 (-1074)) = sg s * (m * p2 p) := by
          rw [← Rat.mul_assoc, h2, ← hn, ev]; grind
        rcases sg_pm s with hs | hs <;> rcases sg_pm (decide (n < 0)) with ht | ht <;> rw [hs, ht] at h3 <;> grind
      have e1 := nearest_value s m n.natAbs p (-1074) hval
      have h2 : IsNear v' (double.nearest s n.natAbs (-1074 + 1)) := ⟨s, n.natAbs, -1074 + 1, by rw [e, ev, p2_add, p2_one]; grind, rfl⟩
      rw [IsNear.det h' h2, e1, nearest_dbl s n.natAbs (-1074) (Or.inl (by omega)) (by rw [← hval]; exact hle)]
    · have h2 : IsNear v' (double.nearest s m (p + 1)) := ⟨s, m, p + 1, by rw [e, ev, p2_add, p2_one]; grind, rfl⟩
      have hge : p2 (-1022) ≤ (m : Rat) * p2 p := by
        have := p2_pos (-1022)
        rcases sg_pm s with hs | hs <;> rw [ev, hs] at hc <;> grind
      rw [IsNear.det h' h2, nearest_dbl s m p (Or.inr hge) hle]

/-- Twice a finite number, not too great, is a finite number. -/
theorem rep_two {x : Nat} (h : Fin x) (b1 : -p2 1022 ≤ rv x) (b2 : rv x ≤ p2 1022) : ∃ t, Fin t ∧ rv t = 2 * rv x := by
  obtain ⟨E, K, hK, -, -, e⟩ := fin_form h
  have hb : (K : Rat) * p2 ((E : Int) - 1074) ≤ p2 1022 := by rw [e] at b1 b2; exact abs_mag b1 b2
  obtain ⟨t, ht, et⟩ := rep (x / 2 ^ 63 % 2 == 1) K (1 + ((E : Int) - 1074)) (by omega) (by omega) (by
    rw [p2_add, p2_one, show (1023 : Int) = 1 + 1022 by omega, p2_add, p2_one]; grind)
  exact ⟨t, ht, by rw [et, e, p2_add, p2_one]; grind⟩

theorem huge_le : (10 : Rat) ^ 300 ≤ p2 1022 := by unfold p2; decide +kernel
theorem tiny_le : p2 (-1022) ≤ 1 / (10 : Rat) ^ 300 := by unfold p2; decide +kernel
theorem p2_1023 : p2 1023 = 2 * p2 1022 := by rw [show (1023 : Int) = 1 + 1022 by omega, p2_add, p2_one]

end Go.Proofs.YtnkpcjmmingkkaaDoor.FL
