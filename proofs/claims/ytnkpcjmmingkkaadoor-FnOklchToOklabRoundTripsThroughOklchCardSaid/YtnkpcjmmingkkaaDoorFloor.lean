/- Rounding down, on words and on numbers. Plain Lean. -/
import Derived.Test.YtnkpcjmmingkkaaDoorFloat
namespace Go.Proofs.YtnkpcjmmingkkaaDoor.FL
open Ieee

theorem floor_eq' {v : Rat} {n : Int} (h1 : (n : Rat) ≤ v) (h2 : v < ((n + 1 : Int) : Rat)) : v.floor = n := by
  have a := Rat.le_floor_iff.2 h1
  have b := Rat.floor_lt_iff.2 h2
  omega

/-- The word that math.Floor hands back for a finite word. -/
def floorw (x : Nat) : Nat := double.write ((double.read x).integral .down)

theorem cut_down (s : Bool) (m d : Nat) : sg s * ((Toward.down.cut s m d : Nat) : Rat) = ((sg s * (m * p2 (-(d : Int)))).floor : Rat) := by
  have hp : p2 (-(d : Int)) * ((2 ^ d : Nat) : Rat) = 1 := by
    rw [← p2_nat, ← p2_add, show -(d : Int) + (d : Int) = 0 by omega, p2_zero]
  have hpp := p2_pos (-(d : Int))
  unfold Toward.cut
  simp only [Nat.one_shiftLeft]
  -- low, rest against the true power
  have key : ∃ low rest : Nat, m = low * 2 ^ d + rest ∧ rest < 2 ^ d ∧ m / 2 ^ min d (m.log2 + 2) = low ∧ (m % 2 ^ min d (m.log2 + 2) != 0) = (rest != 0) := by
    by_cases hd : d ≤ m.log2 + 2
    · rw [Nat.min_eq_left hd]
      refine ⟨m / 2 ^ d, m % 2 ^ d, ?_, Nat.mod_lt _ (Nat.two_pow_pos _), rfl, rfl⟩
      rw [Nat.mul_comm]; exact (Nat.div_add_mod m (2 ^ d)).symm
    · rw [Nat.min_eq_right (by omega)]
      have h1 : m < 2 ^ (m.log2 + 1) := Nat.lt_log2_self
      have h2 : 2 ^ (m.log2 + 1) ≤ 2 ^ d := Nat.pow_le_pow_right (by omega) (by omega)
      have h3 : 2 ^ (m.log2 + 1) ≤ 2 ^ (m.log2 + 2) := Nat.pow_le_pow_right (by omega) (by omega)
      exact ⟨0, m, by omega, by omega, Nat.div_eq_of_lt (by omega), by rw [Nat.mod_eq_of_lt (by omega)]⟩
  obtain ⟨low, rest, hm, hr, e1, e2⟩ := key
  rw [e1, e2]
  have hmv : (m : Rat) * p2 (-(d : Int)) = low + rest * p2 (-(d : Int)) := by
    have : (m : Rat) = low * ((2 ^ d : Nat) : Rat) + rest := by rw [hm]; simp
    rw [this]; grind
  have r0 : 0 ≤ (rest : Rat) * p2 (-(d : Int)) := mulp_nn _ _
  have r1 : (rest : Rat) * p2 (-(d : Int)) < 1 := by
    have hr' : (rest : Rat) < ((2 ^ d : Nat) : Rat) := by exact_mod_cast hr
    have := Rat.mul_lt_mul_of_pos_right hr' hpp
    grind
  have rz : rest ≠ 0 → 0 < (rest : Rat) * p2 (-(d : Int)) := by
    intro h
    have : (0 : Rat) < rest := by exact_mod_cast Nat.pos_of_ne_zero h
    exact Rat.mul_pos this hpp
  rw [hmv]
  cases s
  · have e : (low + rest * p2 (-(d : Int)) : Rat).floor = (low : Int) := by
      apply floor_eq'
      · rw [Rat.intCast_natCast]; grind
      · rw [Rat.intCast_add, Rat.intCast_natCast]; simp; grind
    simp [sg, e, Rat.intCast_natCast]
  · by_cases h0 : rest = 0
    · subst h0
      have e : (sg true * ((low : Rat) + ((0 : Nat) : Rat) * p2 (-(d : Int)))).floor = -(low : Int) := by
        apply floor_eq'
        · simp [sg, Rat.intCast_natCast]; grind
        · simp [sg, Rat.intCast_natCast]; grind
      rw [e]; simp [sg, Rat.intCast_natCast]; grind
    · have e : (sg true * ((low : Rat) + rest * p2 (-(d : Int)))).floor = -((low + 1 : Nat) : Int) := by
        have := rz h0
        apply floor_eq'
        · simp [sg, Rat.intCast_natCast]; grind
        · simp [sg, Rat.intCast_natCast]; grind
      have hb : (rest != 0) = true := by simpa using h0
      rw [e, hb]; simp [sg, Rat.intCast_natCast]; grind

theorem floorw_spec {x : Nat} (hx : Fin x) (h1 : -p2 1023 ≤ rv x) (h2 : rv x ≤ p2 1023) : floorw x < 2 ^ 64 ∧ Fin (floorw x) ∧ rv (floorw x) = ((rv x).floor : Rat) := by
  have hf := hx
  unfold Fin at hf
  obtain ⟨m, i, e, hm, hi⟩ : ∃ m i, double.read x = .number (x / 2 ^ 63 % 2 == 1) m i ∧ m < 2 ^ 53 ∧ -1074 ≤ i := by
    by_cases h : x % 2 ^ 63 < 2 ^ 52
    · exact ⟨_, _, read_sub h, by omega, by omega⟩
    · exact ⟨_, _, read_nor h hf, by omega, by omega⟩
  rw [rv_read e] at h1 h2
  rw [rv_read e]
  unfold floorw
  rw [e]
  generalize (x / 2 ^ 63 % 2 == 1) = s at *
  have hb := abs_mag h1 h2
  have hw : double.write ((Datum.number s m i).integral .down) = double.nearest s (Toward.down.cut s (m <<< i.toNat) (-i).toNat) 0 := rfl
  rw [hw]
  by_cases h0 : 0 ≤ i
  · obtain ⟨d, rfl⟩ : ∃ d : Nat, i = d := ⟨i.toNat, by omega⟩
    rw [show (-(d : Int)).toNat = 0 by omega, Int.toNat_natCast]
    have hc : Toward.down.cut s (m <<< d) 0 = m * 2 ^ d := by
      unfold Toward.cut; simp [Nat.shiftLeft_eq, Nat.mod_one]
    rw [hc]
    have hv : ((m * 2 ^ d : Nat) : Rat) * p2 0 = m * p2 d := by rw [p2_zero, p2_nat, Rat.natCast_mul]; grind
    rw [nearest_value s (m * 2 ^ d) m 0 d hv]
    have hr := (rnd_nearest s m d hb).1
    refine ⟨hr.lt, hr.fin, ?_⟩
    rw [nearest_exact s m d hm (by omega) hb]
    have hfl : (sg s * (m : Rat) * p2 (d : Int)).floor = (if s then -1 else 1) * ((m * 2 ^ d : Nat) : Int) := by
      have : sg s * (m : Rat) * p2 (d : Int) = (((if s then -1 else 1) * ((m * 2 ^ d : Nat) : Int) : Int) : Rat) := by
        rw [p2_nat, Rat.intCast_mul, Rat.intCast_natCast, Rat.natCast_mul]
        cases s <;> simp [sg] <;> grind
      rw [this, Rat.floor_intCast]
    rw [hfl, p2_nat, Rat.intCast_mul, Rat.intCast_natCast, Rat.natCast_mul]
    cases s <;> simp [sg] <;> grind
  · obtain ⟨d, rfl⟩ : ∃ d : Nat, i = -(d : Int) := ⟨(-i).toNat, by omega⟩
    rw [show (- -(d : Int)).toNat = d by omega, show (-(d : Int)).toNat = 0 by omega, Nat.shiftLeft_zero]
    have hcd := cut_down s m d
    have hM : Toward.down.cut s m d ≤ 2 ^ 52 + 1 := by
      unfold Toward.cut
      simp only [Nat.one_shiftLeft]
      have hd1 : 1 ≤ min d (m.log2 + 2) := by omega
      have : 2 ^ 1 ≤ 2 ^ min d (m.log2 + 2) := Nat.pow_le_pow_right (by omega) hd1
      have h3 : m / 2 ^ min d (m.log2 + 2) ≤ m / 2 ^ 1 := Nat.div_le_div_left this (by omega)
      have h4 := Bool.toNat_le (s && m % 2 ^ min d (m.log2 + 2) != 0)
      omega
    generalize Toward.down.cut s m d = M at *
    have hMb : (M : Rat) * p2 0 ≤ p2 1023 := by
      rw [p2_zero]
      have a1 : (M : Rat) ≤ ((2 ^ 52 + 1 : Nat) : Rat) := by exact_mod_cast hM
      have a2 : ((2 ^ 52 + 1 : Nat) : Rat) ≤ 10000000000000000000000000000000000000000000000000000000000000 := by decide +kernel
      have := big_le
      grind
    have hr := (rnd_nearest s M 0 hMb).1
    refine ⟨hr.lt, hr.fin, ?_⟩
    rw [nearest_exact s M 0 (by omega) (by omega) hMb, p2_zero, show sg s * (M : Rat) * 1 = sg s * M by grind, hcd, Rat.mul_assoc]

end Go.Proofs.YtnkpcjmmingkkaaDoor.FL
