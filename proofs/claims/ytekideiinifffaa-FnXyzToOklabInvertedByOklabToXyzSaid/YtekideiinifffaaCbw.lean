/- math.cbrt, walked. -/
import Derived.Test.YtekideiinifffaaF64
import Derived.Test.YtekideiinifffaaCb8
import Derived.Lib.Hide
import Derived.Handy
import Derived.Laws.Bits64b
import Derived.Laws.Bits64
import Derived.Laws.BitsAllLaws
import Derived.IntWalk
namespace Go.Proofs.Ytekideiinifffaa.CB
open Go Go.RowKit Go.Lib Go.Proofs.Ytekideiinifffaa.FL
set_option linter.unusedVariables false
theorem tobits (x : Nat) (w : World) : (callFunc 30 #[.float .f64 x]).run Try.prog w = .ok (.value (.int .u64 x)) w := by kernel_rfl
theorem frombits (n : Int) (w : World) : (callFunc 29 #[.int .u64 n]).run Try.prog w = .ok (.value (.float .f64 n.toNat)) w := by kernel_rfl
theorem isNaN (x : Nat) (w : World) : Calls Try.prog 27 #[.float .f64 x] w (fun e w' => e = .returned (.bool (FloatKind.f64.format.order x x != some .eq)) ∧ w = w') := by
  go_enter Try.func27, Try.ntmps27
  go_wp2_with fail
  go_ret
  exact ⟨rfl, rfl⟩
theorem andNot63 (x : Nat) (h : x < 2 ^ 64) : Go.bits .andNot .u64 (x : Int) 9223372036854775808 = ((x % 2 ^ 63 : Nat) : Int) := by
  have e := u64_andNot_nat x 9223372036854775808 (by omega) (by decide)
  rw [show (18446744073709551615 - 9223372036854775808 : Nat) = 2 ^ 63 - 1 by decide, Nat.and_two_pow_sub_one_eq_mod] at e
  exact e
theorem absF (x : Nat) (w : World) (h : x < 2 ^ 64) : Calls Try.prog 31 #[.float .f64 x] w (fun e w' => e = .returned (.float .f64 (x % 2 ^ 63)) ∧ w = w') := by
  have h1 := tobits
  have h2 := frombits
  have h3 := andNot63 x h
  generalize x % 2 ^ 63 = y at *
  have h4 : ((y : Nat) : Int).toNat = y := Int.toNat_natCast y
  clear h
  go_enter Try.func31, Try.ntmps31
  go_wp2_with fail
  go_ret
  exact ⟨rfl, rfl⟩
theorem abs_rv {x : Nat} (hf : FL.Fin x) : FL.Fin (x % 2 ^ 63) ∧ 0 ≤ rv (x % 2 ^ 63) ∧ (rv (x % 2 ^ 63) = rv x ∨ rv (x % 2 ^ 63) = - rv x) := by
  have hf' : FL.Fin (x % 2 ^ 63) := by unfold FL.Fin at *; rw [Nat.mod_mod]; exact hf
  obtain ⟨E, K, hK, hE, hw, hv⟩ := fin_form hf
  have hlt : E * 2 ^ 52 + K < 2047 * 2 ^ 52 := by unfold FL.Fin at hf; omega
  have e := rung_val false E K (by omega) hE hlt
  have e2 : Ieee.double.word false (E * 2 ^ 52 + K) = x % 2 ^ 63 := by rw [hw]; rfl
  rw [e2] at e
  have n := mulp_nn K ((E : Int) - 1074)
  have e3 : rv (x % 2 ^ 63) = K * p2 ((E : Int) - 1074) := by rw [e]; simp only [sg, Bool.false_eq_true, if_false]; grind
  refine ⟨hf', by rw [e3]; exact n, ?_⟩
  rw [e3, hv]
  rcases sg_pm (x / 2 ^ 63 % 2 == 1) with h | h <;> rw [h]
  · right; grind
  · left; grind
theorem fMax : FL.Fin 9218868437227405311 := by unfold FL.Fin; decide
theorem vMax : rv 9218868437227405311 = ((9007199254740991 : Nat) : Rat) * p2 971 := by
  have h := rung_val false 2045 9007199254740991 (by decide) (Or.inr (by decide)) (by decide)
  have e : Ieee.double.word false (2045 * 2 ^ 52 + 9007199254740991) = 9218868437227405311 := by decide
  rw [e] at h
  rw [h]
  simp only [sg, Bool.false_eq_true, if_false]
  have : ((2045 : Nat) : Int) - 1074 = 971 := by omega
  rw [this]
  grind
theorem fin_max {x : Nat} (h : FL.Fin x) : rv x ≤ rv 9218868437227405311 ∧ -rv 9218868437227405311 ≤ rv x := by
  obtain ⟨E, K, hK, hE, hw, hv⟩ := fin_form h
  have hlt : E * 2 ^ 52 + K < 2047 * 2 ^ 52 := by unfold FL.Fin at h; omega
  have hE2 : E ≤ 2045 := by omega
  rw [vMax, hv]
  have a1 : (K : Rat) * p2 ((E : Int) - 1074) ≤ ((9007199254740991 : Nat) : Rat) * p2 ((E : Int) - 1074) :=
    Rat.mul_le_mul_of_nonneg_right (by exact_mod_cast (show K ≤ 9007199254740991 by omega)) (Rat.le_of_lt (p2_pos _))
  have a2 : ((9007199254740991 : Nat) : Rat) * p2 ((E : Int) - 1074) ≤ ((9007199254740991 : Nat) : Rat) * p2 971 :=
    Rat.mul_le_mul_of_nonneg_left (p2_le (by omega)) (natCast_nn _)
  have a3 := mulp_nn K ((E : Int) - 1074)
  rcases sg_pm (x / 2 ^ 63 % 2 == 1) with hs | hs <;> rw [hs] <;> constructor <;> grind
theorem isInfA (x : Nat) (w : World) (h : x < 2 ^ 64) : Calls Try.prog 28 #[.float .f64 x, .int .i64 0] w (fun e w' => e = .returned (.bool (FloatKind.f64.format.order (x % 2 ^ 63) 9218868437227405311 == some .gt)) ∧ w = w') := by
  have HA := Lib.hid (absF x w h)
  generalize x % 2 ^ 63 = y at *
  clear h
  go_enter Try.func28, Try.ntmps28
  go_wp2_with (go_at_call 31; refine HA.out.mono ?_; rintro e w' ⟨rfl, rfl⟩)
  go_ret
  exact ⟨rfl, rfl⟩
theorem isInf_fin (x : Nat) (w : World) (h : x < 2 ^ 64) (hf : FL.Fin x) : Calls Try.prog 28 #[.float .f64 x, .int .i64 0] w (fun e w' => e = .returned (.bool false) ∧ w = w') := by
  have ho : (FloatKind.f64.format.order (x % 2 ^ 63) 9218868437227405311 == some .gt) = false := by
    show (Ieee.double.order _ _ == some .gt) = false
    rw [gt_iff (abs_rv hf).1 fMax, decide_eq_false_iff_not]
    have := (fin_max (abs_rv hf).1).1
    grind
  have := isInfA x w h
  rw [ho] at this
  exact this
theorem ord_nan {x : Nat} (hf : FL.Fin x) : (FloatKind.f64.format.order x x != some .eq) = false := by
  rcases order_fin hf hf with ⟨c, _⟩ | ⟨_, c⟩ | ⟨c, _⟩
  · grind
  · show (Ieee.double.order x x != some .eq) = false
    rw [c]; rfl
  · grind
theorem isNaN_fin (x : Nat) (w : World) (hf : FL.Fin x) : Calls Try.prog 27 #[.float .f64 x] w (fun e w' => e = .returned (.bool false) ∧ w = w') := by
  have h := isNaN x w
  rw [ord_nan hf] at h
  exact h
def neg (x : Nat) : Nat := Op.negFloat .f64 x
def sg? (s : Bool) (x : Nat) : Nat := if s then neg x else x
/-- The first guess. -/
def G0 (ax : Nat) (b : Bool) (t0 : Nat) : Prop := t0 < 2 ^ 63 ∧ if b then ∃ z, floatBits .mul .f64 w54 ax = some z ∧ z < 2 ^ 63 ∧ t0 = z / 3 + BS else t0 = ax / 3 + BB
theorem andC (t : Nat) (h : t < 2 ^ 63) : Go.bits .and .u64 (t : Int) 18446744072635809792 = ((t - t % 1073741824 : Nat) : Int) := by
  have e := u64_and_nat t 18446744072635809792 (by omega) (by decide)
  rw [show (18446744072635809792 : Nat) = (2 ^ 34 - 1) <<< 30 by decide] at e
  have e2 : t &&& (2 ^ 34 - 1) <<< 30 = t - t % 1073741824 := by
    have h1 : t = (t >>> 30) <<< 30 + t % 1073741824 := by
      rw [Nat.shiftLeft_eq, Nat.shiftRight_eq_div_pow]
      omega
    have h3 : (t >>> 30) &&& (2 ^ 34 - 1) = t >>> 30 := by
      rw [Nat.and_two_pow_sub_one_eq_mod, Nat.shiftRight_eq_div_pow]
      exact Nat.mod_eq_of_lt (by omega)
    have h2 : t &&& (2 ^ 34 - 1) <<< 30 = ((t >>> 30) &&& (2 ^ 34 - 1)) <<< 30 := by
      apply Nat.eq_of_testBit_eq
      intro i
      simp only [Nat.testBit_and, Nat.testBit_shiftLeft, Nat.testBit_shiftRight]
      by_cases hi : i ≥ 30
      · simp [hi]
      · simp [hi]
    rw [h2, h3]
    rw [Nat.shiftLeft_eq] at h1 ⊢
    omega
  rw [e2] at e
  exact e
set_option maxRecDepth 100000 in
set_option maxHeartbeats 4000000 in
theorem cbrtM (x ax t0 t : Nat) (s b : Bool) (w : World) (hx : x < 2 ^ 64) (hf : FL.Fin x) (n0 : (FloatKind.f64.format.order x 0 == some .eq) = false) (hs : (FloatKind.f64.format.order x 0 == some .lt) = s) (hax : ax = sg? s x) (hal : ax < 2 ^ 63)
    (hb : (FloatKind.f64.format.order ax 4503599627370496 == some .lt) = b) (h0 : G0 ax b t0) (hw : CbW ax t0 t) :
    Calls Try.prog 26 #[.float .f64 x] w (fun e w' => e = .returned (.float .f64 (sg? s t)) ∧ w = w') := by
  obtain ⟨m1, r1, m2, s1, d, e1, e2, f, g, t1, s2, r2, w2, n, m, k, p, g1, g2, g3, g4, g5, g6, g7, g8, g9, g10, l1, l2, g11, g12, g13, g14, g15, g16, g17, g18⟩ := hw
  have a1 := fun (t : TypeId) (w : World) => run_float_arith (P := Try.prog) w .mul t .f64 _ _ _ g1
  have a2 := fun (t : TypeId) (w : World) => run_float_arith (P := Try.prog) w .quo t .f64 _ _ _ g2
  have a3 := fun (t : TypeId) (w : World) => run_float_arith (P := Try.prog) w .mul t .f64 _ _ _ g3
  have a4 := fun (t : TypeId) (w : World) => run_float_arith (P := Try.prog) w .add t .f64 _ _ _ g4
  have a5 := fun (t : TypeId) (w : World) => run_float_arith (P := Try.prog) w .quo t .f64 _ _ _ g5
  have a6 := fun (t : TypeId) (w : World) => run_float_arith (P := Try.prog) w .add t .f64 _ _ _ g6
  have a7 := fun (t : TypeId) (w : World) => run_float_arith (P := Try.prog) w .add t .f64 _ _ _ g7
  have a8 := fun (t : TypeId) (w : World) => run_float_arith (P := Try.prog) w .quo t .f64 _ _ _ g8
  have a9 := fun (t : TypeId) (w : World) => run_float_arith (P := Try.prog) w .add t .f64 _ _ _ g9
  have a10 := fun (t : TypeId) (w : World) => run_float_arith (P := Try.prog) w .mul t .f64 _ _ _ g10
  have a11 := fun (t : TypeId) (w : World) => run_float_arith (P := Try.prog) w .mul t .f64 _ _ _ g11
  have a12 := fun (t : TypeId) (w : World) => run_float_arith (P := Try.prog) w .quo t .f64 _ _ _ g12
  have a13 := fun (t : TypeId) (w : World) => run_float_arith (P := Try.prog) w .add t .f64 _ _ _ g13
  have a14 := fun (t : TypeId) (w : World) => run_float_arith (P := Try.prog) w .sub t .f64 _ _ _ g14
  have a15 := fun (t : TypeId) (w : World) => run_float_arith (P := Try.prog) w .add t .f64 _ _ _ g15
  have a16 := fun (t : TypeId) (w : World) => run_float_arith (P := Try.prog) w .quo t .f64 _ _ _ g16
  have a17 := fun (t : TypeId) (w : World) => run_float_arith (P := Try.prog) w .mul t .f64 _ _ _ g17
  have a18 := fun (t : TypeId) (w : World) => run_float_arith (P := Try.prog) w .add t .f64 _ _ _ g18
  clear g1 g2 g3 g4 g5 g6 g7 g8 g9 g10 g11 g12 g13 g14 g15 g16 g17 g18
  unfold wC wD wE wF wG at *
  have N1 := Lib.hid (fun W => isNaN_fin x W hf)
  have N2 := Lib.hid (fun W => isInf_fin x W hx hf)
  have T1 := tobits
  have T2 := frombits
  have hng := fun b => F64.unary_negf .f64 b
  have B1 := andC t1 l1
  have W1 : IntKind.u64.wrap (((t1 - t1 % 1073741824 : Nat) : Int) + 1073741824) = ((chop t1 : Nat) : Int) := by
    rw [IntWalk.u64_in _ (by unfold chop at l2; omega)]; unfold chop; omega
  have W2 : ((chop t1 : Nat) : Int).toNat = chop t1 := Int.toNat_natCast _
  generalize chop t1 = C at *
  generalize t1 - t1 % 1073741824 = D at *
  obtain ⟨l0, h0⟩ := h0
  have W4 : ((t0 : Nat) : Int).toNat = t0 := Int.toNat_natCast _
  clear hx hf l1 l2
  cases b
  · simp only [Bool.false_eq_true, if_false] at h0
    have W3 : IntKind.u64.wrap (((ax : Nat) : Int) / 3 + 3071306043645493248) = ((t0 : Nat) : Int) := by
      unfold BB at h0
      rw [IntWalk.u64_in _ (by omega)]; omega
    clear h0 l0
    cases s <;> simp only [sg?, Bool.false_eq_true, if_false, if_true, neg] at hax ⊢ <;> subst hax
    all_goals
      go_enter Try.func26, Try.ntmps26
      go_wp2_with (first
      | (go_at_call 27; refine (N1.out _).mono ?_; rintro e w' ⟨rfl, rfl⟩)
      | (go_at_call 28; refine (N2.out _).mono ?_; rintro e w' ⟨rfl, rfl⟩))
      go_ret
      exact ⟨rfl, rfl⟩
  · simp only [if_true] at h0
    obtain ⟨z, hz, zl, h0⟩ := h0
    have a0 := fun (t : TypeId) (w : World) => run_float_arith (P := Try.prog) w .mul t .f64 _ _ _ hz
    unfold w54 at a0
    have W3 : IntKind.u64.wrap (((z : Nat) : Int) / 3 + 2990241250352824320) = ((t0 : Nat) : Int) := by
      unfold BS at h0
      rw [IntWalk.u64_in _ (by omega)]; omega
    clear h0 l0 hz
    cases s <;> simp only [sg?, Bool.false_eq_true, if_false, if_true, neg] at hax ⊢ <;> subst hax
    all_goals
      go_enter Try.func26, Try.ntmps26
      go_wp2_with (first
      | (go_at_call 27; refine (N1.out _).mono ?_; rintro e w' ⟨rfl, rfl⟩)
      | (go_at_call 28; refine (N2.out _).mono ?_; rintro e w' ⟨rfl, rfl⟩))
      go_ret
      exact ⟨rfl, rfl⟩
end Go.Proofs.Ytekideiinifffaa.CB
