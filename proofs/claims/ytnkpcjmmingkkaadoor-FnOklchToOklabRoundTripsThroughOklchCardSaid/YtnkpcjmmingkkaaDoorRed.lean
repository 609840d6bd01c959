/- The reduction of a moderate number by quarters of pi: plain numerics. -/
import Derived.Test.YtnkpcjmmingkkaaDoorCos
import Derived.Test.YtnkpcjmmingkkaaDoorFloor
namespace Go.Proofs.YtnkpcjmmingkkaaDoor.F64
open Go Go.RowKit Go.Proofs.YtnkpcjmmingkkaaDoor.FL
set_option linter.unusedVariables false
theorem toInt_floor {w : Nat} (hf : FL.Fin w) (h0 : 0 ≤ rv w) : (Ieee.double.read w).toInt .zero = some (rv w).floor := by
  obtain ⟨m, i, e⟩ := read_fin hf
  rw [rv_read e] at h0 ⊢
  rw [e]
  generalize (w / 2 ^ 63 % 2 == 1) = s at *
  have hp := p2_pos i
  have hz : ∀ d, Ieee.Toward.zero.cut s m d = Ieee.Toward.down.cut false m d := by
    intro d; unfold Ieee.Toward.cut; simp
  unfold Ieee.Datum.toInt Ieee.Datum.integral
  simp only
  cases s
  · by_cases hi : 0 ≤ i
    · obtain ⟨d, rfl⟩ : ∃ d : Nat, i = d := ⟨i.toNat, by omega⟩
      have hc : Ieee.Toward.zero.cut false (m <<< d) 0 = m * 2 ^ d := by
        unfold Ieee.Toward.cut; simp [Nat.shiftLeft_eq]
      rw [show (-(d : Int)).toNat = 0 by omega, Int.toNat_natCast, hc]
      have hv : sg false * (m : Rat) * p2 (d : Int) = (((m * 2 ^ d : Nat) : Int) : Rat) := by
        rw [p2_nat, Rat.intCast_natCast, Rat.natCast_mul]; simp [sg]
      rw [hv, Rat.floor_intCast]
      simp [Ieee.signed]
    · obtain ⟨d, rfl⟩ : ∃ d : Nat, i = -(d : Int) := ⟨(-i).toNat, by omega⟩
      rw [show (- -(d : Int)).toNat = d by omega, show (-(d : Int)).toNat = 0 by omega, Nat.shiftLeft_zero]
      have hcd := cut_down false m d
      have h2 : Ieee.Toward.zero.cut false m d = Ieee.Toward.down.cut false m d := by unfold Ieee.Toward.cut; simp
      rw [h2]
      have h3 : ((Ieee.Toward.down.cut false m d : Nat) : Rat) = (((sg false * (m * p2 (-(d : Int)))).floor : Int) : Rat) := by
        rw [← hcd]; simp [sg]
      have h4 : ((Ieee.Toward.down.cut false m d : Nat) : Int) = (sg false * (m * p2 (-(d : Int)))).floor := by exact_mod_cast h3
      rw [show sg false * (m : Rat) * p2 (-(d : Int)) = sg false * (m * p2 (-(d : Int))) by grind, ← h4]
      simp [Ieee.signed]
  · have hm : m = 0 := by
      have h1 := mulp_nn m i
      have h2 : (m : Rat) * p2 i = 0 := by simp only [sg, if_true] at h0; grind
      exact mag_zero h2
    subst hm
    have hc : Ieee.Toward.zero.cut true (0 <<< i.toNat) (-i).toNat = 0 := by unfold Ieee.Toward.cut; simp
    rw [hc]
    have hv : sg true * ((0 : Nat) : Rat) * p2 i = ((0 : Int) : Rat) := by simp
    rw [hv, Rat.floor_intCast]
    rfl
theorem int_gap (n : Int) (q : Rat) (hq : 0 < q) : (n : Rat) * q = 0 ∨ q ≤ n * q ∨ n * q ≤ -q := by
  rcases Int.lt_trichotomy n 0 with h | h | h
  · right; right
    have h1 : (n : Rat) ≤ ((-1 : Int) : Rat) := by exact_mod_cast (show n ≤ -1 by omega)
    have := Rat.mul_le_mul_of_nonneg_right h1 (Rat.le_of_lt hq)
    have e : (((-1 : Int) : Rat)) = -1 := by rfl
    rw [e] at this
    grind
  · left; subst h; simp
  · right; left
    have h1 : (((1 : Int)) : Rat) ≤ (n : Rat) := by exact_mod_cast (show (1 : Int) ≤ n by omega)
    have := Rat.mul_le_mul_of_nonneg_right h1 (Rat.le_of_lt hq)
    have e : (((1 : Int) : Rat)) = 1 := by rfl
    rw [e] at this
    grind
/-- Two finite numbers, one of them not small, are equal or apart. -/
theorem gap {u v : Nat} (hu : FL.Fin u) (hv : FL.Fin v) (k : Int) (h : p2 k ≤ rv v) : rv u - rv v = 0 ∨ p2 (k - 53) ≤ rv u - rv v ∨ rv u - rv v ≤ -p2 (k - 53) := by
  obtain ⟨E, K, hK, hE, -, ev⟩ := fin_form hv
  obtain ⟨E', K', hK', hE', -, eu⟩ := fin_form hu
  have pk := p2_pos k
  have pE := p2_pos ((E : Int) - 1074)
  have pE2 := p2_pos ((E : Int) - 1075)
  have nK := mulp_nn K ((E : Int) - 1074)
  have hs : sg (v / 2 ^ 63 % 2 == 1) = 1 := by
    rcases sg_pm (v / 2 ^ 63 % 2 == 1) with hs | hs
    · rw [hs] at ev; grind
    · exact hs
  rw [hs] at ev
  have hv' : rv v = K * p2 ((E : Int) - 1074) := by rw [ev]; grind
  have hKr : (K : Rat) ≤ ((2 ^ 53 : Nat) : Rat) := by exact_mod_cast Nat.le_of_lt hK
  have hlt : p2 k ≤ p2 (53 + ((E : Int) - 1074)) := by
    rw [p2_add, show (53 : Int) = ((53 : Nat) : Int) by rfl, p2_nat]
    have := Rat.mul_le_mul_of_nonneg_right hKr (Rat.le_of_lt pE)
    grind
  have hkE : k ≤ 53 + ((E : Int) - 1074) := by
    apply Classical.byContradiction
    intro hc
    have := p2_lt (show 53 + ((E : Int) - 1074) < k by omega)
    grind
  by_cases hke : k = 53 + ((E : Int) - 1074)
  · -- K would have to be 2^53
    exfalso
    have h1 : ((2 ^ 53 : Nat) : Rat) * p2 ((E : Int) - 1074) ≤ K * p2 ((E : Int) - 1074) := by
      rw [← hv', ← p2_nat, ← p2_add, show ((53 : Nat) : Int) + ((E : Int) - 1074) = k by omega]; exact h
    have h2 : (K : Rat) < ((2 ^ 53 : Nat) : Rat) := by exact_mod_cast hK
    have := Rat.mul_lt_mul_of_pos_right h2 pE
    grind
  have hq : p2 (k - 53) ≤ p2 ((E : Int) - 1075) := p2_le (by omega)
  have e2 : p2 ((E : Int) - 1074) = 2 * p2 ((E : Int) - 1075) := by
    rw [show (E : Int) - 1074 = 1 + ((E : Int) - 1075) by omega, p2_add, p2_one]
  by_cases hc : E ≤ E' + 1
  · have hu' : ∃ n : Int, rv u = n * p2 ((E : Int) - 1075) := by
      refine ⟨(if (u / 2 ^ 63 % 2 == 1) then -1 else 1) * ((K' * 2 ^ (E' + 1 - E) : Nat) : Int), ?_⟩
      rw [eu, show (E' : Int) - 1074 = ((E' + 1 - E : Nat) : Int) + ((E : Int) - 1075) by omega, p2_add, p2_nat, Rat.intCast_mul, Rat.intCast_natCast, Rat.natCast_mul]
      cases (u / 2 ^ 63 % 2 == 1) <;> simp [sg] <;> grind
    obtain ⟨n, hn⟩ := hu'
    have hd : rv u - rv v = ((n - 2 * (K : Int) : Int) : Rat) * p2 ((E : Int) - 1075) := by
      rw [hn, hv', e2, Rat.intCast_sub, Rat.intCast_mul, Rat.intCast_natCast]
      have : (((2 : Int)) : Rat) = 2 := by rfl
      rw [this]; grind
    rw [hd]
    rcases int_gap (n - 2 * (K : Int)) _ pE2 with g | g | g
    · exact .inl g
    · exact .inr (.inl (Rat.le_trans hq g))
    · exact .inr (.inr (by grind))
  · right; right
    have hK52 : 2 ^ 52 ≤ K := by omega
    have a1 : ((2 ^ 52 : Nat) : Rat) * p2 ((E : Int) - 1074) ≤ rv v := by
      rw [hv']
      exact Rat.mul_le_mul_of_nonneg_right (by exact_mod_cast hK52) (Rat.le_of_lt pE)
    have pE' := p2_pos ((E' : Int) - 1074)
    have a2 : (K' : Rat) * p2 ((E' : Int) - 1074) ≤ ((2 ^ 53 : Nat) : Rat) * p2 ((E' : Int) - 1074) :=
      Rat.mul_le_mul_of_nonneg_right (by exact_mod_cast Nat.le_of_lt hK') (Rat.le_of_lt pE')
    have a3 : ((2 ^ 53 : Nat) : Rat) * p2 ((E' : Int) - 1074) ≤ ((2 ^ 51 : Nat) : Rat) * p2 ((E : Int) - 1074) := by
      rw [← p2_nat, ← p2_nat, ← p2_add, ← p2_add]
      exact p2_le (by omega)
    have a4 := mulp_nn K' ((E' : Int) - 1074)
    have a5 : rv u ≤ (K' : Rat) * p2 ((E' : Int) - 1074) := by
      rw [eu]; rcases sg_pm (u / 2 ^ 63 % 2 == 1) with hs | hs <;> rw [hs] <;> grind
    have c1 : ((2 ^ 52 : Nat) : Rat) = 4503599627370496 := by decide +kernel
    have c2 : ((2 ^ 51 : Nat) : Rat) = 2251799813685248 := by decide +kernel
    rw [c1] at a1
    rw [c2] at a3
    grind
end Go.Proofs.YtnkpcjmmingkkaaDoor.F64
