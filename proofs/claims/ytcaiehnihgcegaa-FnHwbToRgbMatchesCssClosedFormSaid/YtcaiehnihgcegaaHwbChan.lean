/- zzMod12, zzHslChannel, zzNear: what they hand back. -/
import Derived.Test.YtcaiehnihgcegaaHwbForm
import Derived.Laws.Cover2
namespace Go.Proofs.Ytcaiehnihgcegaa.F64
open Go.RowKit Go.Proofs.Ytcaiehnihgcegaa.FL
open Ieee
theorem cut_zero (s : Bool) (m d : Nat) : Toward.zero.cut s m d = m / 2 ^ d := by
  unfold Toward.cut
  simp only [Nat.one_shiftLeft, Bool.toNat_false, Nat.add_zero]
  by_cases hd : d ≤ m.log2 + 2
  · rw [Nat.min_eq_left hd]
  · have h1 : m < 2 ^ (m.log2 + 1) := Nat.lt_log2_self
    have h2 : 2 ^ (m.log2 + 1) ≤ 2 ^ d := Nat.pow_le_pow_right (by omega) (by omega)
    have h3 : 2 ^ (m.log2 + 1) ≤ 2 ^ (m.log2 + 2) := Nat.pow_le_pow_right (by omega) (by omega)
    rw [Nat.min_eq_right (by omega), Nat.div_eq_of_lt (by omega), Nat.div_eq_of_lt (by omega)]
theorem trunc_mag (s : Bool) (m : Nat) (i : Int) : ((Toward.zero.cut s (m <<< i.toNat) (-i).toNat : Nat) : Rat) ≤ m * p2 i ∧ m * p2 i < ((Toward.zero.cut s (m <<< i.toNat) (-i).toNat : Nat) : Rat) + 1 := by
  rw [cut_zero]
  by_cases h0 : 0 ≤ i
  · obtain ⟨d, rfl⟩ : ∃ d : Nat, i = d := ⟨i.toNat, by omega⟩
    rw [show (-(d : Int)).toNat = 0 by omega, Int.toNat_natCast, Nat.pow_zero, Nat.div_one, Nat.shiftLeft_eq, p2_nat, Rat.natCast_mul]
    grind
  · obtain ⟨d, rfl⟩ : ∃ d : Nat, i = -(d : Int) := ⟨(-i).toNat, by omega⟩
    rw [show (- -(d : Int)).toNat = d by omega, show (-(d : Int)).toNat = 0 by omega, Nat.shiftLeft_zero]
    have hp : p2 (-(d : Int)) * ((2 ^ d : Nat) : Rat) = 1 := by
      rw [← p2_nat, ← p2_add, show -(d : Int) + (d : Int) = 0 by omega, p2_zero]
    have pp := p2_pos (-(d : Int))
    have a1 : m / 2 ^ d * 2 ^ d ≤ m := Nat.div_mul_le_self _ _
    have a2 : m < (m / 2 ^ d + 1) * 2 ^ d := by
      have := Nat.div_add_mod m (2 ^ d)
      have h2 := Nat.mod_lt m (Nat.two_pow_pos d)
      rw [Nat.add_mul, Nat.mul_comm (m / 2 ^ d)]; omega
    have b1 : ((m / 2 ^ d : Nat) : Rat) * ((2 ^ d : Nat) : Rat) ≤ (m : Rat) := by rw [← Rat.natCast_mul]; exact_mod_cast a1
    have b2 : (m : Rat) < (((m / 2 ^ d : Nat) : Rat) + 1) * ((2 ^ d : Nat) : Rat) := by
      have : (m : Rat) < (((m / 2 ^ d + 1) * 2 ^ d : Nat) : Rat) := by exact_mod_cast a2
      rw [Rat.natCast_mul, Rat.natCast_add] at this
      exact this
    generalize ((m / 2 ^ d : Nat) : Rat) = M at *
    generalize ((2 ^ d : Nat) : Rat) = T at *
    generalize p2 (-(d : Int)) = p at *
    generalize (m : Rat) = mm at *
    have c1 := Rat.mul_nonneg (a := mm - M * T) (b := p) (by grind) (by grind)
    have c2 := Rat.mul_pos (a := (M + 1) * T - mm) (b := p) (by grind) pp
    constructor
    · have : (mm - M * T) * p = mm * p - M * (p * T) := by grind
      rw [this, hp] at c1; grind
    · have : ((M + 1) * T - mm) * p = (M + 1) * (p * T) - mm * p := by grind
      rw [this, hp] at c2; grind
theorem trunc_spec {q : Nat} (hf : FL.Fin q) : ∃ N : Int, (double.read q).toInt .zero = some N ∧
    ((0 ≤ rv q ∧ (N : Rat) ≤ rv q ∧ rv q < (N : Rat) + 1) ∨ (rv q < 0 ∧ rv q ≤ (N : Rat) ∧ (N : Rat) - 1 < rv q)) := by
  obtain ⟨m, i, e⟩ := read_fin hf
  rw [rv_read e, e]
  generalize (q / 2 ^ 63 % 2 == 1) = s at *
  have hm := trunc_mag s m i
  have hn := mulp_nn m i
  have hM0 : (0 : Rat) ≤ ((Toward.zero.cut s (m <<< i.toNat) (-i).toNat : Nat) : Rat) := natCast_nn _
  refine ⟨Ieee.signed s (Toward.zero.cut s (m <<< i.toNat) (-i).toNat) 0, rfl, ?_⟩
  have hs := signed_val s (Toward.zero.cut s (m <<< i.toNat) (-i).toNat) 0
  rw [show p2 ((0 : Nat) : Int) = 1 from p2_zero] at hs
  rw [hs]
  generalize ((Toward.zero.cut s (m <<< i.toNat) (-i).toNat : Nat) : Rat) = M at *
  have e2 : sg s * (m : Rat) * p2 i = sg s * (m * p2 i) := by grind
  rw [e2]
  generalize (m : Rat) * p2 i = v at *
  cases s
  · simp only [sg, Bool.false_eq_true, if_false]; left; grind
  · simp only [sg, if_true]
    by_cases h0 : v = 0
    · have hM : M ≤ 0 := by grind
      left
      have : M = 0 := by grind
      rw [this, h0]
      refine ⟨by grind, by grind, by grind⟩
    · right; grind

theorem trunc_conv {q : Nat} (hf : FL.Fin q) (h1 : -1000 ≤ rv q) (h2 : rv q ≤ 1000) : ∃ N : Int, floatToIntVal .f64 q .i64 = some N ∧ TruncR q (floatOfInt .f64 N) := by
  obtain ⟨N, e, hN⟩ := trunc_spec hf
  have nb : -2000 ≤ N ∧ N ≤ 2000 := by
    have a : (N : Rat) ≤ ((2000 : Int) : Rat) := by show (N : Rat) ≤ 2000; grind
    have b : ((-2000 : Int) : Rat) ≤ (N : Rat) := by show (-2000 : Rat) ≤ (N : Rat); grind
    exact ⟨Rat.intCast_le_intCast.1 b, Rat.intCast_le_intCast.1 a⟩
  have ev : floatToIntVal .f64 q .i64 = some N := by
    unfold floatToIntVal
    rw [show (FloatKind.f64.decode q).toInt .zero = some N from e]
    simp only
    rw [if_pos]
    show (-9223372036854775808 : Int) ≤ N ∧ N ≤ 9223372036854775807
    omega
  have hbig := big_le
  have w0 : floatOfInt .f64 N = double.nearest (decide (N < 0)) N.natAbs 0 := rfl
  have hm : (N.natAbs : Rat) * p2 0 ≤ p2 1023 := by
    rw [p2_zero]
    have : (N.natAbs : Rat) ≤ ((2000 : Nat) : Rat) := by exact_mod_cast (show N.natAbs ≤ 2000 by omega)
    have e : ((2000 : Nat) : Rat) = 2000 := rfl
    grind
  have hr := (rnd_nearest (decide (N < 0)) N.natAbs 0 hm).1
  have hv := nearest_exact (decide (N < 0)) N.natAbs 0 (by omega) (by omega) hm
  refine ⟨N, ev, ?_, N, ?_, hN⟩
  · rw [w0]; exact hr.fin
  · rw [w0, hv, p2_zero, Rat.mul_one]
    exact total_val N (decide (N < 0)) (fun _ => rfl)

theorem minF_any (a b : Nat) (w : World) : Calls Try.prog 28 #[.float .f64 a, .float .f64 b] w fun e w' => e = .returned (.float .f64 (minF a b)) ∧ w = w' := by
  unfold minF
  cases h1 : ltB a b
  · have h1' : (FloatKind.f64.format.order a b == some .lt) = false := h1
    clear h1
    go_enter Try.func28, Try.ntmps28
    go_wp2
    go_ret
    exact ⟨rfl, rfl⟩
  · have h1' : (FloatKind.f64.format.order a b == some .lt) = true := h1
    clear h1
    go_enter Try.func28, Try.ntmps28
    go_wp2
    go_ret
    exact ⟨rfl, rfl⟩
theorem maxF_any (a b : Nat) (w : World) : Calls Try.prog 27 #[.float .f64 a, .float .f64 b] w fun e w' => e = .returned (.float .f64 (maxF a b)) ∧ w = w' := by
  unfold maxF
  cases h1 : gtB a b
  · have h1' : (FloatKind.f64.format.order a b == some .gt) = false := h1
    clear h1
    go_enter Try.func27, Try.ntmps27
    go_wp2
    go_ret
    exact ⟨rfl, rfl⟩
  · have h1' : (FloatKind.f64.format.order a b == some .gt) = true := h1
    clear h1
    go_enter Try.func27, Try.ntmps27
    go_wp2
    go_ret
    exact ⟨rfl, rfl⟩

theorem mk_add {x y : Nat} (hx : FL.Fin x) (hy : FL.Fin y) (h1 : -1000000 ≤ rv x + rv y) (h2 : rv x + rv y ≤ 1000000) : ∃ z, floatBits .add .f64 x y = some z ∧ Rnd (rv x + rv y) z := by
  have hb := big_le
  obtain ⟨z, e, hr, -⟩ := add_rnd hx hy (by grind) (by grind); exact ⟨z, e, hr⟩
theorem mk_sub {x y : Nat} (hx : FL.Fin x) (hy : FL.Fin y) (h1 : -1000000 ≤ rv x - rv y) (h2 : rv x - rv y ≤ 1000000) : ∃ z, floatBits .sub .f64 x y = some z ∧ Rnd (rv x - rv y) z := by
  have hb := big_le
  obtain ⟨z, e, hr, -⟩ := sub_rnd hx hy (by grind) (by grind); exact ⟨z, e, hr⟩
theorem mk_mul {x y : Nat} (hx : FL.Fin x) (hy : FL.Fin y) (h1 : -1000000 ≤ rv x * rv y) (h2 : rv x * rv y ≤ 1000000) : ∃ z, floatBits .mul .f64 x y = some z ∧ Rnd (rv x * rv y) z := by
  have hb := big_le
  obtain ⟨z, e, hr, -⟩ := mul_rnd hx hy (by grind) (by grind); exact ⟨z, e, hr⟩
theorem mk_quo {x y : Nat} (hx : FL.Fin x) (hy : FL.Fin y) (h0 : rv y ≠ 0) (h1 : -1000000 ≤ rv x / rv y) (h2 : rv x / rv y ≤ 1000000) : ∃ z, floatBits .quo .f64 x y = some z ∧ Rnd (rv x / rv y) z := by
  have hb := big_le
  obtain ⟨z, e, hr, -⟩ := div_rnd hx hy h0 (by grind) (by grind); exact ⟨z, e, hr⟩

set_option maxHeartbeats 1000000 in
theorem mod12_any (x : Nat) (w : World) (fx : FL.Fin x) (h1 : -400 ≤ rv x) (h2 : rv x ≤ 400) : Calls Try.prog 26 #[.float .f64 x] w fun e w' => ∃ k, Mod12R x k ∧ e = .returned (.float .f64 k) ∧ w = w' := by
  have hE := ee_pos
  have hE2 := ee_le
  have ed : rv x / rv 4622945017495814144 = rv x * (1 / 12) := by rw [v12]; grind
  obtain ⟨q, e1, R1⟩ := mk_quo fx f12 (by rw [v12]; decide) (by rw [ed]; grind) (by rw [ed]; grind)
  rw [ed] at R1
  have n1 := near R1 35 (by grind) (by grind) (by grind)
  obtain ⟨N, e2, HT⟩ := trunc_conv R1.fin (by grind) (by grind)
  have HT' := HT
  obtain ⟨ff, M, vf, hM⟩ := HT'
  obtain ⟨f, e3, R3⟩ := mk_sub ff f1 (by rw [v1]; grind) (by rw [v1]; grind)
  rw [v1] at R3
  have n3 := near R3 50 (by grind) (by grind) (by grind)
  have q1 := fun (t : TypeId) (w : World) => run_float_arith (P := Try.prog) w .quo t .f64 _ _ _ e1
  have q2 := fun (w : World) => run_convert_float_int (P := Try.prog) w 22 2 .f64 .i64 _ _ (by kernel_rfl) Try.underlying2 e2
  have Q1 := Lib.hid e1
  have Q3 := Lib.hid e3
  have HTT := Lib.hid HT
  cases hg : gtB (floatOfInt .f64 N) q
  · have hg' : (FloatKind.f64.format.order (floatOfInt .f64 N) q == some .gt) = false := hg
    obtain ⟨p, e4, R4⟩ := mk_mul f12 ff (by rw [v12]; grind) (by rw [v12]; grind)
    rw [v12] at R4
    have n4 := near R4 500 (by grind) (by grind) (by grind)
    obtain ⟨k, e5, R5⟩ := mk_sub fx R4.fin (by grind) (by grind)
    have q4 := fun (t : TypeId) (w : World) => run_float_arith (P := Try.prog) w .mul t .f64 _ _ _ e4
    have q5 := fun (t : TypeId) (w : World) => run_float_arith (P := Try.prog) w .sub t .f64 _ _ _ e5
    have HR := Lib.hid (show Mod12R x k from ⟨q, _, _, p, .inl e1, HT, by rw [hg]; rfl, .inl e4, .inl e5⟩)
    clear e1 e2 e3 e4 e5 HT n1 n3 n4 R1 R3 R4 R5 ff vf hM hg ed hE hE2 fx h1 h2 Q1 Q3 HTT
    go_enter Try.func26, Try.ntmps26
    go_wp2
    go_ret
    exact ⟨k, HR.out, rfl, rfl⟩
  · have hg' : (FloatKind.f64.format.order (floatOfInt .f64 N) q == some .gt) = true := hg
    obtain ⟨p, e4, R4⟩ := mk_mul f12 R3.fin (by rw [v12]; grind) (by rw [v12]; grind)
    rw [v12] at R4
    have n4 := near R4 1000 (by grind) (by grind) (by grind)
    obtain ⟨k, e5, R5⟩ := mk_sub fx R4.fin (by grind) (by grind)
    have q3 := fun (t : TypeId) (w : World) => run_float_arith (P := Try.prog) w .sub t .f64 _ _ _ e3
    have q4 := fun (t : TypeId) (w : World) => run_float_arith (P := Try.prog) w .mul t .f64 _ _ _ e4
    have q5 := fun (t : TypeId) (w : World) => run_float_arith (P := Try.prog) w .sub t .f64 _ _ _ e5
    have HR := Lib.hid (show Mod12R x k from ⟨q, _, f, p, .inl e1, HT, by rw [hg]; exact .inl e3, .inl e4, .inl e5⟩)
    clear e1 e2 e3 e4 e5 HT n1 n3 n4 R1 R3 R4 R5 ff vf hM hg ed hE hE2 fx h1 h2 Q1 Q3 HTT
    go_enter Try.func26, Try.ntmps26
    go_wp2
    go_ret
    exact ⟨k, HR.out, rfl, rfl⟩
end Go.Proofs.Ytcaiehnihgcegaa.F64
