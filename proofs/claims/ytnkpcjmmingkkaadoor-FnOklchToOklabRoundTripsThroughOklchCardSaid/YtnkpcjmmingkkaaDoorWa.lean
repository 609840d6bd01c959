/- math.atan, Signbit, Copysign, Atan2, walked at finite words. -/
import Derived.Test.YtnkpcjmmingkkaaDoorWk
namespace Go.Proofs.YtnkpcjmmingkkaaDoor.F64
open Go Go.RowKit Go.Lib Go.Proofs.YtnkpcjmmingkkaaDoor.FL
set_option linter.unusedVariables false
def atanV (x : Nat) : Nat := if (FloatKind.f64.format.order x 0 == some .eq) = true then x else if (FloatKind.f64.format.order x 0 == some .gt) = true then satV x else neg (satV (neg x))
set_option maxRecDepth 100000 in
set_option maxHeartbeats 4000000 in
theorem atanE (x : Nat) (w : World) (m : Nat) : Calls Tryd.prog 41 #[.float .f64 x] (w.drewN m) (FP (atanV x) w) := by
  have K := Lib.hid (show Calls Tryd.prog 48 #[.float .f64 x] (w.drewN m) (FP (atanV x) w) by
    obtain ⟨v, hv⟩ : ∃ v, atanV x = v := ⟨_, rfl⟩
    rw [hv]
    unfold atanV at hv
    have hng := fun b => unary_negf .f64 b
    cases c1 : (FloatKind.f64.format.order x 0 == some .eq)
    case true =>
      rw [c1, if_pos rfl] at hv
      have HV := Lib.hid hv
      clear hv
      go_enter Tryd.func48, Tryd.ntmps48
      go_wp2_with fail
      go_ret
      exact ⟨_, m, rfl, by rw [← HV.out]; exact Eqv.refl _, rfl⟩
    case false =>
      rw [c1, if_neg (by decide)] at hv
      cases c2 : (FloatKind.f64.format.order x 0 == some .gt)
      case true =>
        rw [c2, if_pos rfl] at hv
        have HV := Lib.hid hv
        clear hv
        go_enter Tryd.func48, Tryd.ntmps48
        go_wp2_with (go_at_call 50; refine (satanE _ w _).mono ?_; rintro e w' ⟨u, k, rfl, eu, rfl⟩)
        go_ret
        exact ⟨_, _, rfl, by rw [← HV.out]; exact eu, rfl⟩
      case false =>
        rw [c2, if_neg (by decide)] at hv
        have HV := Lib.hid hv
        clear hv
        go_enter Tryd.func48, Tryd.ntmps48
        go_wp2_with (go_at_call 50; refine (satanE _ w _).mono ?_; rintro e w' ⟨u, k, rfl, eu, rfl⟩)
        go_ret
        exact ⟨_, _, rfl, by rw [← HV.out]; exact eu.neg, rfl⟩)
  go_enter Tryd.func41, Tryd.ntmps41
  go_wp2_with (go_at_call 48; refine K.out.mono ?_; rintro e w' ⟨u, k, rfl, eu, rfl⟩)
  go_ret
  exact ⟨_, _, rfl, eu, rfl⟩
theorem and63 (x : Nat) : x &&& 2 ^ 63 = if x / 2 ^ 63 % 2 = 1 then 2 ^ 63 else 0 := by
  apply Nat.eq_of_testBit_eq
  intro i
  rw [Nat.testBit_and, Nat.testBit_two_pow]
  by_cases e : 63 = i
  · subst e
    rw [Nat.testBit_eq_decide_div_mod_eq]
    split <;> rename_i h
    · rw [h]; decide
    · rw [decide_eq_false h]; decide
  · rw [decide_eq_false e, Bool.and_false]
    split
    · rw [Nat.testBit_two_pow, decide_eq_false e]
    · rw [Nat.zero_testBit]
theorem and_bit (x : Nat) (h : x < 2 ^ 64) : bits .and .u64 (x : Int) 9223372036854775808 = (if x / 2 ^ 63 % 2 == 1 then 9223372036854775808 else 0) := by
  have e := bits_and_u64_nat x 9223372036854775808 (by omega) (by decide)
  rw [show (9223372036854775808 : Nat) = 2 ^ 63 by decide, and63, show (((2 ^ 63 : Nat)) : Int) = 9223372036854775808 by rfl] at e
  rw [e]
  by_cases h1 : x / 2 ^ 63 % 2 = 1
  · simp [h1]
  · simp [h1]
theorem copysignE (c y v : Nat) (s : Bool) (w : World) (hs : (y / 2 ^ 63 % 2 == 1) = s) (hy : y < 2 ^ 64) (hc : bits .andNot .u64 (c : Int) 9223372036854775808 = (c : Int)) (ho : bits .or .u64 (c : Int) (if s then 9223372036854775808 else 0) = (v : Int)) : Calls Tryd.prog 40 #[.float .f64 c, .float .f64 y] w (fun e w' => e = .returned (.float .f64 v) ∧ w = w') := by
  have h1 := tobits
  have h2 := frombits
  have h3 := and_bit y hy
  rw [hs] at h3
  clear hs hy
  have h4 : ((v : Nat) : Int).toNat = v := Int.toNat_natCast v
  cases s
  · simp only [Bool.false_eq_true, if_false] at h3 ho
    go_enter Tryd.func40, Tryd.ntmps40
    go_wp2_with fail
    go_ret
    exact ⟨rfl, rfl⟩
  · simp only [if_true] at h3 ho
    go_enter Tryd.func40, Tryd.ntmps40
    go_wp2_with fail
    go_ret
    exact ⟨rfl, rfl⟩
theorem signbitE (x : Nat) (w : World) (h : x < 2 ^ 64) : Calls Tryd.prog 39 #[.float .f64 x] w (fun e w' => e = .returned (.bool (x / 2 ^ 63 % 2 == 1)) ∧ w = w') := by
  have h1 := tobits
  have h2 : (IntKind.i64.wrap (x : Int) < 0) = (x / 2 ^ 63 % 2 = 1) := by rw [IntKind.wrap_i64]; simp only [eq_iff_iff]; omega
  have h2' : (wrap64 (x : Int) < 0) = (x / 2 ^ 63 % 2 = 1) := by unfold wrap64; simp only [eq_iff_iff]; omega
  by_cases hb : x / 2 ^ 63 % 2 = 1
  · have h3 : IntKind.i64.wrap (x : Int) < 0 := by rw [h2]; exact hb
    have h3' : wrap64 (x : Int) < 0 := by rw [h2']; exact hb
    have h4 : (x / 2 ^ 63 % 2 == 1) = true := by rw [hb]; rfl
    rw [h4]
    clear h2 h2' hb h4 h
    go_enter Tryd.func39, Tryd.ntmps39
    go_wp2_with fail
    go_ret
    exact ⟨by simp, rfl⟩
  · have h3 : ¬ IntKind.i64.wrap (x : Int) < 0 := by rw [h2]; exact hb
    have h3' : ¬ wrap64 (x : Int) < 0 := by rw [h2']; exact hb
    have h4 : (x / 2 ^ 63 % 2 == 1) = false := by rw [beq_eq_false_iff_ne]; exact hb
    rw [h4]
    clear h2 h2' hb h4 h
    go_enter Tryd.func39, Tryd.ntmps39
    go_wp2_with fail
    go_ret
    exact ⟨by simp, rfl⟩
end Go.Proofs.YtnkpcjmmingkkaaDoor.F64
