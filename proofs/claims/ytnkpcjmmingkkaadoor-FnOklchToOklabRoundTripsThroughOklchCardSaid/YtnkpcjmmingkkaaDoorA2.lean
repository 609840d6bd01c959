/- math.Atan2 at finite words, walked. -/
import Derived.Test.YtnkpcjmmingkkaaDoorAq
namespace Go.Proofs.YtnkpcjmmingkkaaDoor.F64
open Go Go.RowKit Go.Lib Go.Proofs.YtnkpcjmmingkkaaDoor.FL
set_option linter.unusedVariables false
theorem vMax2 : rv 9218868437227405311 = ((9007199254740991 : Nat) : Rat) * p2 971 := by unfold p2; decide +kernel
theorem fin_max2 {x : Nat} (h : FL.Fin x) : rv x ≤ rv 9218868437227405311 := by
  obtain ⟨E, K, hK, hE, hw, hv⟩ := fin_form h
  have hlt : E * 2 ^ 52 + K < 2047 * 2 ^ 52 := by unfold FL.Fin at h; omega
  have hE2 : E ≤ 2045 := by omega
  rw [vMax2, hv]
  have a1 : (K : Rat) * p2 ((E : Int) - 1074) ≤ ((9007199254740991 : Nat) : Rat) * p2 ((E : Int) - 1074) :=
    Rat.mul_le_mul_of_nonneg_right (by exact_mod_cast (show K ≤ 9007199254740991 by omega)) (Rat.le_of_lt (p2_pos _))
  have a2 : ((9007199254740991 : Nat) : Rat) * p2 ((E : Int) - 1074) ≤ ((9007199254740991 : Nat) : Rat) * p2 971 :=
    Rat.mul_le_mul_of_nonneg_left (p2_le (by omega)) (natCast_nn _)
  have a3 := mulp_nn K ((E : Int) - 1074)
  rcases sg_pm (x / 2 ^ 63 % 2 == 1) with hs | hs <;> rw [hs] <;> grind
theorem isInfE (x : Nat) (w : World) (h : x < 2 ^ 64) (hf : FL.Fin x) : Calls Tryd.prog 35 #[.float .f64 x, .int .i64 0] w (fun e w' => e = .returned (.bool false) ∧ w = w') := by
  have HA := Lib.hid (absF x w h)
  have ho : (FloatKind.f64.format.order (x % 2 ^ 63) 9218868437227405311 == some .gt) = false := by
    show (Ieee.double.order _ _ == some .gt) = false
    rw [gt_iff (abs_rv hf).1 fMax, decide_eq_false_iff_not]
    have := fin_max2 (abs_rv hf).1
    grind
  generalize x % 2 ^ 63 = y at *
  clear h hf
  go_enter Tryd.func35, Tryd.ntmps35
  go_wp2_with (go_at_call 37; refine HA.out.mono ?_; rintro e w' ⟨rfl, rfl⟩)
  go_ret
  exact ⟨rfl, rfl⟩
def PIw : Nat := 4614256656552045848
def wsg (s : Bool) (c : Nat) : Nat := if s then c + 2 ^ 63 else c
/-- The answer, whatever the angle's sign. -/
def a2V (y x : Nat) : Nat :=
  if (FloatKind.f64.format.order y 0 == some .eq) = true then
    (if (FloatKind.f64.format.order x 0 == some .gt || FloatKind.f64.format.order x 0 == some .eq) = true ∧ (x / 2 ^ 63 % 2 == 1) = false then wsg (y / 2 ^ 63 % 2 == 1) 0 else wsg (y / 2 ^ 63 % 2 == 1) 4614256656552045848)
  else if (FloatKind.f64.format.order x 0 == some .eq) = true then wsg (y / 2 ^ 63 % 2 == 1) 4609753056924675352
  else if (FloatKind.f64.format.order x 0 == some .lt) = true then
    (if (FloatKind.f64.format.order (atanV (fop .quo y x)) 0 == some .lt || FloatKind.f64.format.order (atanV (fop .quo y x)) 0 == some .eq) = true then fop .add (atanV (fop .quo y x)) 4614256656552045848 else fop .sub (atanV (fop .quo y x)) 4614256656552045848)
  else atanV (fop .quo y x)
theorem cs0 (y : Nat) (w : World) (hy : y < 2 ^ 64) : Calls Tryd.prog 40 #[.float .f64 0, .float .f64 y] w (fun e w' => e = .returned (.float .f64 (wsg (y / 2 ^ 63 % 2 == 1) 0)) ∧ w = w') := by
  obtain ⟨s, hs⟩ : ∃ s, (y / 2 ^ 63 % 2 == 1) = s := ⟨_, rfl⟩
  rw [hs]
  exact copysignE 0 y _ s w hs hy (by decide +kernel) (by cases s <;> decide +kernel)
theorem csP (y : Nat) (w : World) (hy : y < 2 ^ 64) : Calls Tryd.prog 40 #[.float .f64 4614256656552045848, .float .f64 y] w (fun e w' => e = .returned (.float .f64 (wsg (y / 2 ^ 63 % 2 == 1) 4614256656552045848)) ∧ w = w') := by
  obtain ⟨s, hs⟩ : ∃ s, (y / 2 ^ 63 % 2 == 1) = s := ⟨_, rfl⟩
  rw [hs]
  exact copysignE 4614256656552045848 y _ s w hs hy (by decide +kernel) (by cases s <;> decide +kernel)
theorem csH (y : Nat) (w : World) (hy : y < 2 ^ 64) : Calls Tryd.prog 40 #[.float .f64 4609753056924675352, .float .f64 y] w (fun e w' => e = .returned (.float .f64 (wsg (y / 2 ^ 63 % 2 == 1) 4609753056924675352)) ∧ w = w') := by
  obtain ⟨s, hs⟩ : ∃ s, (y / 2 ^ 63 % 2 == 1) = s := ⟨_, rfl⟩
  rw [hs]
  exact copysignE 4609753056924675352 y _ s w hs hy (by decide +kernel) (by cases s <;> decide +kernel)
set_option maxRecDepth 100000 in
set_option maxHeartbeats 8000000 in
theorem atan2E (y x : Nat) (w : World) (m : Nat) (ly : y < 2 ^ 64) (lx : x < 2 ^ 64) (fy : FL.Fin y) (fx : FL.Fin x) (fq : (FloatKind.f64.format.order y 0 == some .eq) = false → (FloatKind.f64.format.order x 0 == some .eq) = false → FL.Fin (atanV (fop .quo y x)) ∧ ¬ IsNaN (fop .quo y x)) :
    Calls Tryd.prog 25 #[.float .f64 y, .float .f64 x] (w.drewN m) (FP (a2V y x) w) := by
  have K := Lib.hid (show Calls Tryd.prog 32 #[.float .f64 y, .float .f64 x] (w.drewN m) (FP (a2V y x) w) by
    obtain ⟨v, hv⟩ : ∃ v, a2V y x = v := ⟨_, rfl⟩
    rw [hv]
    unfold a2V at hv
    have NY := Lib.hid (fun W => (show Calls Tryd.prog 34 #[.float .f64 y] W (fun e w' => e = .returned (.bool false) ∧ W = w') by have h := isNaN y W; rw [ord_nan fy] at h; exact h))
    have NX := Lib.hid (fun W => (show Calls Tryd.prog 34 #[.float .f64 x] W (fun e w' => e = .returned (.bool false) ∧ W = w') by have h := isNaN x W; rw [ord_nan fx] at h; exact h))
    have IY := Lib.hid (fun W => isInfE y W ly fy)
    have IX := Lib.hid (fun W => isInfE x W lx fx)
    have SX := Lib.hid (fun W => signbitE x W lx)
    have C0 := Lib.hid (fun W => cs0 y W ly)
    have CP := Lib.hid (fun W => csP y W ly)
    have CH := Lib.hid (fun W => csH y W ly)
    have EY : Eqv y y := Eqv.refl y
    have EX : Eqv x x := Eqv.refl x
    generalize (y / 2 ^ 63 % 2 == 1) = sy at *
    generalize (x / 2 ^ 63 % 2 == 1) = sx at *
    clear ly lx
    cases y0 : (FloatKind.f64.format.order y 0 == some .eq)
    case true =>
      rw [y0, if_pos rfl] at hv
      cases xg : (FloatKind.f64.format.order x 0 == some .gt || FloatKind.f64.format.order x 0 == some .eq)
      case true =>
        cases sx
        case false =>
          rw [xg, if_pos ⟨rfl, rfl⟩] at hv
          have HV := Lib.hid hv
          clear hv fy fx fq
          go_enter Tryd.func32, Tryd.ntmps32
          go_wp2_with (first
            | (go_at_call 34; first | (with_reducible refine (NY.out _).mono ?_; rintro e w' ⟨rfl, rfl⟩) | (with_reducible refine (NX.out _).mono ?_; rintro e w' ⟨rfl, rfl⟩))
            | (go_at_call 39; refine (SX.out _).mono ?_; rintro e w' ⟨rfl, rfl⟩)
            | (go_at_call 40; first | (with_reducible refine (C0.out _).mono ?_; rintro e w' ⟨rfl, rfl⟩) | (with_reducible refine (CP.out _).mono ?_; rintro e w' ⟨rfl, rfl⟩) | (with_reducible refine (CH.out _).mono ?_; rintro e w' ⟨rfl, rfl⟩)))
          go_ret
          exact ⟨_, m, rfl, by rw [← HV.out]; exact Eqv.refl _, rfl⟩
        case true =>
          rw [xg, if_neg (by rintro ⟨_, h⟩; exact absurd h (by decide))] at hv
          have HV := Lib.hid hv
          clear hv fy fx fq
          go_enter Tryd.func32, Tryd.ntmps32
          go_wp2_with (first
            | (go_at_call 34; first | (with_reducible refine (NY.out _).mono ?_; rintro e w' ⟨rfl, rfl⟩) | (with_reducible refine (NX.out _).mono ?_; rintro e w' ⟨rfl, rfl⟩))
            | (go_at_call 39; refine (SX.out _).mono ?_; rintro e w' ⟨rfl, rfl⟩)
            | (go_at_call 40; first | (with_reducible refine (C0.out _).mono ?_; rintro e w' ⟨rfl, rfl⟩) | (with_reducible refine (CP.out _).mono ?_; rintro e w' ⟨rfl, rfl⟩) | (with_reducible refine (CH.out _).mono ?_; rintro e w' ⟨rfl, rfl⟩)))
          go_ret
          exact ⟨_, m, rfl, by rw [← HV.out]; exact Eqv.refl _, rfl⟩
      case false =>
        rw [xg, if_neg (by rintro ⟨h, _⟩; exact absurd h (by decide))] at hv
        have HV := Lib.hid hv
        clear hv fy fx fq
        go_enter Tryd.func32, Tryd.ntmps32
        go_wp2_with (first
          | (go_at_call 34; first | (with_reducible refine (NY.out _).mono ?_; rintro e w' ⟨rfl, rfl⟩) | (with_reducible refine (NX.out _).mono ?_; rintro e w' ⟨rfl, rfl⟩))
          | (go_at_call 40; first | (with_reducible refine (C0.out _).mono ?_; rintro e w' ⟨rfl, rfl⟩) | (with_reducible refine (CP.out _).mono ?_; rintro e w' ⟨rfl, rfl⟩) | (with_reducible refine (CH.out _).mono ?_; rintro e w' ⟨rfl, rfl⟩)))
        go_ret
        exact ⟨_, m, rfl, by rw [← HV.out]; exact Eqv.refl _, rfl⟩
    case false =>
      rw [y0, if_neg (by decide)] at hv
      cases x0 : (FloatKind.f64.format.order x 0 == some .eq)
      case true =>
        rw [x0, if_pos rfl] at hv
        have HV := Lib.hid hv
        clear hv fy fx fq
        go_enter Tryd.func32, Tryd.ntmps32
        go_wp2_with (first
          | (go_at_call 34; first | (with_reducible refine (NY.out _).mono ?_; rintro e w' ⟨rfl, rfl⟩) | (with_reducible refine (NX.out _).mono ?_; rintro e w' ⟨rfl, rfl⟩))
          | (go_at_call 40; first | (with_reducible refine (C0.out _).mono ?_; rintro e w' ⟨rfl, rfl⟩) | (with_reducible refine (CP.out _).mono ?_; rintro e w' ⟨rfl, rfl⟩) | (with_reducible refine (CH.out _).mono ?_; rintro e w' ⟨rfl, rfl⟩)))
        go_ret
        exact ⟨_, m, rfl, by rw [← HV.out]; exact Eqv.refl _, rfl⟩
      case false =>
        rw [x0, if_neg (by decide)] at hv
        obtain ⟨zq, hzq⟩ : ∃ zq, fop .quo y x = zq := ⟨_, rfl⟩
        have FQ := fq y0 x0
        rw [hzq] at hv FQ
        have HZ := Lib.hid hzq
        have DQ := Lib.hid FQ.2
        have AE := Lib.hid (fun m => atanE zq w m)
        have F0 := Lib.hid (show ¬ IsNaN (atanV zq) from fun h => by have := FQ.1; unfold IsNaN at h; unfold FL.Fin at this; omega)
        clear hzq FQ
        generalize atanV zq = q0 at *
        have EQ0 : Eqv q0 q0 := Eqv.refl q0
        cases xl : (FloatKind.f64.format.order x 0 == some .lt)
        case false =>
          rw [xl, if_neg (by decide)] at hv
          have HV := Lib.hid hv
          clear hv fy fx fq EQ0
          go_enter Tryd.func32, Tryd.ntmps32
          go_wp2_with (first
            | (go_at_call 34; first | (with_reducible refine (NY.out _).mono ?_; rintro e w' ⟨rfl, rfl⟩) | (with_reducible refine (NX.out _).mono ?_; rintro e w' ⟨rfl, rfl⟩))
            | (go_at_call 35; first | (with_reducible refine (IY.out _).mono ?_; rintro e w' ⟨rfl, rfl⟩) | (with_reducible refine (IX.out _).mono ?_; rintro e w' ⟨rfl, rfl⟩))
            | (go_at_call 41; rw [HZ.out] at ez; obtain rfl := ez.eq DQ.out; refine (AE.out _).mono ?_; rintro e w' ⟨u, k, rfl, eu, rfl⟩; obtain rfl := eu.eq F0.out)
            | (refine wpList_fop rfl _ _ _ _ _ rfl (by exact .inr (.inr (.inr rfl))) _ _ _ _ rfl rfl EY EX ?_; intro z' m' ez))
          go_ret
          exact ⟨_, _, rfl, by rw [← HV.out]; exact Eqv.refl _, rfl⟩
        case true =>
          rw [xl, if_pos rfl] at hv
          cases ql : (FloatKind.f64.format.order q0 0 == some .lt || FloatKind.f64.format.order q0 0 == some .eq)
          case true =>
            rw [ql, if_pos rfl] at hv
            have HV := Lib.hid hv
            clear hv fy fx fq
            go_enter Tryd.func32, Tryd.ntmps32
            go_wp2_with (first
              | (go_at_call 34; first | (with_reducible refine (NY.out _).mono ?_; rintro e w' ⟨rfl, rfl⟩) | (with_reducible refine (NX.out _).mono ?_; rintro e w' ⟨rfl, rfl⟩))
              | (go_at_call 35; first | (with_reducible refine (IY.out _).mono ?_; rintro e w' ⟨rfl, rfl⟩) | (with_reducible refine (IX.out _).mono ?_; rintro e w' ⟨rfl, rfl⟩))
              | (go_at_call 41; rw [HZ.out] at ez; obtain rfl := ez.eq DQ.out; refine (AE.out _).mono ?_; rintro e w' ⟨u, k, rfl, eu, rfl⟩; obtain rfl := eu.eq F0.out)
              | (refine wpList_fop rfl _ _ _ _ _ rfl (by exact .inr (.inr (.inr rfl))) _ _ _ _ rfl rfl EY EX ?_; intro z' m' ez)
              | (refine wpList_fop rfl _ _ _ _ _ rfl (by first | exact .inl rfl | exact .inr (.inl rfl)) _ _ _ _ rfl rfl EQ0 (Eqv.refl _) ?_; intro z2 m2 ez2))
            go_ret
            exact ⟨_, _, rfl, by rw [← HV.out]; exact ez2, rfl⟩
          case false =>
            rw [ql, if_neg (by decide)] at hv
            have HV := Lib.hid hv
            clear hv fy fx fq
            go_enter Tryd.func32, Tryd.ntmps32
            go_wp2_with (first
              | (go_at_call 34; first | (with_reducible refine (NY.out _).mono ?_; rintro e w' ⟨rfl, rfl⟩) | (with_reducible refine (NX.out _).mono ?_; rintro e w' ⟨rfl, rfl⟩))
              | (go_at_call 35; first | (with_reducible refine (IY.out _).mono ?_; rintro e w' ⟨rfl, rfl⟩) | (with_reducible refine (IX.out _).mono ?_; rintro e w' ⟨rfl, rfl⟩))
              | (go_at_call 41; rw [HZ.out] at ez; obtain rfl := ez.eq DQ.out; refine (AE.out _).mono ?_; rintro e w' ⟨u, k, rfl, eu, rfl⟩; obtain rfl := eu.eq F0.out)
              | (refine wpList_fop rfl _ _ _ _ _ rfl (by exact .inr (.inr (.inr rfl))) _ _ _ _ rfl rfl EY EX ?_; intro z' m' ez)
              | (refine wpList_fop rfl _ _ _ _ _ rfl (by first | exact .inl rfl | exact .inr (.inl rfl)) _ _ _ _ rfl rfl EQ0 (Eqv.refl _) ?_; intro z2 m2 ez2))
            go_ret
            exact ⟨_, _, rfl, by rw [← HV.out]; exact ez2, rfl⟩)
  go_enter Tryd.func25, Tryd.ntmps25
  go_wp2_with (go_at_call 32; refine K.out.mono ?_; rintro e w' ⟨u, k, rfl, eu, rfl⟩)
  go_ret
  exact ⟨_, _, rfl, eu, rfl⟩
end Go.Proofs.YtnkpcjmmingkkaaDoor.F64
