/- math.sin and math.cos of any number: contracts, up to a NaN. -/
import Derived.Test.YtpkhfknjajehnaaDoorTe
import Derived.Test.YtpkhfknjajehnaaDoorTd
import Derived.Test.YtpkhfknjajehnaaDoorTrig
namespace Go.Proofs.YtpkhfknjajehnaaDoor.F64
open Go Go.RowKit Go.Lib Go.Proofs.YtpkhfknjajehnaaDoor.FL
set_option linter.unusedVariables false
theorem vMax : rv 9218868437227405311 = ((9007199254740991 : Nat) : Rat) * p2 971 := by unfold p2; decide +kernel
theorem fin_max {x : Nat} (h : FL.Fin x) : rv x ≤ rv 9218868437227405311 ∧ -rv 9218868437227405311 ≤ rv x := by
  obtain ⟨E, K, hK, hE, hw, hv⟩ := fin_form h
  have hlt : E * 2 ^ 52 + K < 2047 * 2 ^ 52 := by unfold FL.Fin at h; omega
  have hE2 : E ≤ 2045 := by omega
  rw [vMax, hv]
  have a1 : (K : Rat) * p2 ((E : Int) - 1074) ≤ ((9007199254740991 : Nat) : Rat) * p2 ((E : Int) - 1074) :=
    Rat.mul_le_mul_of_nonneg_right (by exact_mod_cast (show K ≤ 9007199254740991 by omega)) (Rat.le_of_lt (p2_pos _))
  have a2 : ((9007199254740991 : Nat) : Rat) * p2 ((E : Int) - 1074) ≤ ((9007199254740991 : Nat) : Rat) * p2 971 :=
    Rat.mul_le_mul_of_nonneg_left (p2_le (by omega)) (natCast_nn _)
  have a3 := mulp_nn K ((E : Int) - 1074)
  rcases sg_pm (x / 2 ^ 63 % 2 == 1) with hs | hs <;> rw [hs] <;> constructor <;> grind
theorem exp_big {x : Nat} (hf : FL.Fin x) (hx : x < 2 ^ 63) (h : 536870912 ≤ rv x) : 1014 ≤ x / 2 ^ 52 ∧ x / 2 ^ 52 ≤ 2046 := by
  obtain ⟨E, K, hK, hE, hw, hv⟩ := fin_form hf
  have hlt : E * 2 ^ 52 + K < 2047 * 2 ^ 52 := by unfold FL.Fin at hf; omega
  rw [Nat.mod_eq_of_lt hx] at hw
  have hb : 1014 ≤ E := by
    apply Classical.byContradiction
    intro hc
    have a1 : (K : Rat) * p2 ((E : Int) - 1074) ≤ ((2 ^ 53 : Nat) : Rat) * p2 ((E : Int) - 1074) :=
      Rat.mul_le_mul_of_nonneg_right (by exact_mod_cast Nat.le_of_lt hK) (Rat.le_of_lt (p2_pos _))
    rw [← p2_nat, ← p2_add] at a1
    have a2 := p2_le (show ((53 : Nat) : Int) + ((E : Int) - 1074) ≤ 0 by omega)
    rw [p2_zero] at a2
    have a3 := mulp_nn K ((E : Int) - 1074)
    rw [hv] at h
    rcases sg_pm (x / 2 ^ 63 % 2 == 1) with hs | hs <;> rw [hs] at h <;> grind
  omega
set_option maxRecDepth 10000 in
theorem red_any (ax : Nat) (hf : FL.Fin ax) (h0 : 0 ≤ rv ax) (h1 : rv ax ≤ 536870912) : ∃ o z, Red ax o z := by
  have big := big_le
  have el := eta_le
  have ep := eta_pos
  have u := u53_eq
  obtain ⟨m1, hm1, rm1, -, -⟩ := mul_rnd hf fK (by rw [vK]; grind) (by rw [vK]; grind)
  rw [vK] at rm1
  have em := rm1.err 1073741824 (by grind) (by grind)
  rw [u] at em
  have m0 : 0 ≤ rv m1 := by
    have := rm1.above 0 fZ (by rw [vZ]; grind)
    rw [vZ] at this; exact this
  have hti := toInt_floor rm1.fin m0
  obtain ⟨J, hJ⟩ : ∃ J, (rv m1).floor = J := ⟨_, rfl⟩
  rw [hJ] at hti
  have l1 : (J : Rat) ≤ rv m1 := by rw [← hJ]; exact Rat.le_floor_iff.1 (Int.le_refl _)
  have c1 : (((1 : Int)) : Rat) = 1 := by rfl
  have J0 : 0 ≤ J := by rw [← hJ]; exact Rat.le_floor_iff.2 (by rw [q0]; exact m0)
  have J1 : J ≤ 1000000000 := by
    have h : (J : Rat) ≤ ((1000000000 : Int) : Rat) := by
      have : (((1000000000 : Int)) : Rat) = 1000000000 := by rfl
      rw [this]; grind
    exact Rat.intCast_le_intCast.1 h
  have hfi : floatToIntVal .f64 m1 .u64 = some J := by
    unfold floatToIntVal
    have ht : (FloatKind.f64.decode m1).toInt .zero = some J := hti
    rw [ht]
    have k1 : IntKind.u64.min = 0 := by decide
    have k2 : IntKind.u64.max = 18446744073709551615 := by decide
    simp only [k1, k2]
    rw [if_pos (by omega)]
  obtain ⟨fJ, vJ⟩ := floatOf J J0 (by omega)
  have jb : (J : Rat) ≤ 1000000000 := by
    have h : (J : Rat) ≤ ((1000000000 : Int) : Rat) := Rat.intCast_le_intCast.2 J1
    have : (((1000000000 : Int)) : Rat) = 1000000000 := by rfl
    rw [this] at h; exact h
  have jn : (0 : Rat) ≤ (J : Rat) := by exact_mod_cast J0
  obtain ⟨p, o, y, hp, fy, y0, y1, ho⟩ : ∃ (p : Bool) (o : Int) (y : Nat), (if p then J % 2 = 1 ∧ floatBits .add .f64 (floatOfInt .f64 J) 4607182418800017408 = some y ∧ o = (J + 1) % 8 else J % 2 = 0 ∧ y = floatOfInt .f64 J ∧ o = J % 8) ∧ FL.Fin y ∧ 0 ≤ rv y ∧ rv y ≤ 1000000002 ∧ (o = 0 ∨ o = 2 ∨ o = 4 ∨ o = 6) := by
    by_cases hj : J % 2 = 0
    · exact ⟨false, J % 8, _, by rw [if_neg (by decide)]; exact ⟨hj, rfl, rfl⟩, fJ, by rw [vJ]; exact jn, by rw [vJ]; grind, by omega⟩
    · obtain ⟨y, hy, ry, -⟩ := add_rnd fJ fOne (by rw [vJ, vOne]; grind) (by rw [vJ, vOne]; grind)
      rw [vJ, vOne] at ry
      have e := ry.err 1000000001 (by grind) (by grind)
      rw [u] at e
      exact ⟨true, (J + 1) % 8, y, by rw [if_pos rfl]; exact ⟨by omega, hy, rfl⟩, ry.fin, by grind, by grind, by omega⟩
  clear hJ l1 hti em rm1
  obtain ⟨ya, hya, rya, -, -⟩ := mul_rnd fy fA (by rw [vA]; grind) (by rw [vA]; grind)
  rw [vA] at rya
  have e1 := rya.err 1073741824 (by grind) (by grind)
  rw [u] at e1
  obtain ⟨r1, hr1, rr1, -⟩ := sub_rnd hf rya.fin (by grind) (by grind)
  have e2 := rr1.err 2147483648 (by grind) (by grind)
  rw [u] at e2
  obtain ⟨yb, hyb, ryb, -, -⟩ := mul_rnd fy fB (by rw [vB]; grind) (by rw [vB]; grind)
  rw [vB] at ryb
  have e3 := ryb.err 1073741824 (by grind) (by grind)
  rw [u] at e3
  obtain ⟨r2, hr2, rr2, -⟩ := sub_rnd rr1.fin ryb.fin (by grind) (by grind)
  have e4 := rr2.err 4294967296 (by grind) (by grind)
  rw [u] at e4
  obtain ⟨yc, hyc, ryc, -, -⟩ := mul_rnd fy fC (by rw [vC]; grind) (by rw [vC]; grind)
  rw [vC] at ryc
  have e5 := ryc.err 1073741824 (by grind) (by grind)
  rw [u] at e5
  obtain ⟨z, hz, rz, -⟩ := sub_rnd rr2.fin ryc.fin (by grind) (by grind)
  exact ⟨o, z, ⟨⟨m1, y, J, p, ya, r1, yb, r2, yc, hm1, hfi, J0, by omega, hp, hya, hr1, hyb, hr2, hyc, hz⟩, ho⟩⟩
theorem isInfA (x : Nat) (w : World) (h : x < 2 ^ 64) : Calls Tryd.prog 23 #[.float .f64 x, .int .i64 0] w (fun e w' => e = .returned (.bool (FloatKind.f64.format.order (x % 2 ^ 63) 9218868437227405311 == some .gt)) ∧ w = w') := by
  have HA := Lib.hid (absF x w h)
  generalize x % 2 ^ 63 = y at *
  clear h
  go_enter Tryd.func23, Tryd.ntmps23
  go_wp2_with (go_at_call 25; refine HA.out.mono ?_; rintro e w' ⟨rfl, rfl⟩)
  go_ret
  exact ⟨rfl, rfl⟩
theorem isInf_fin (x : Nat) (w : World) (h : x < 2 ^ 64) (hf : FL.Fin x) : Calls Tryd.prog 23 #[.float .f64 x, .int .i64 0] w (fun e w' => e = .returned (.bool false) ∧ w = w') := by
  have ho : (FloatKind.f64.format.order (x % 2 ^ 63) 9218868437227405311 == some .gt) = false := by
    show (Ieee.double.order _ _ == some .gt) = false
    rw [gt_iff (abs_rv hf).1 fMax, decide_eq_false_iff_not]
    have := (fin_max (abs_rv hf).1).1
    grind
  have := isInfA x w h
  rw [ho] at this
  exact this
theorem isInf_inf (x : Nat) (w : World) (h : x < 2 ^ 64) (hi : x % 2 ^ 63 = 2047 * 2 ^ 52) : Calls Tryd.prog 23 #[.float .f64 x, .int .i64 0] w (fun e w' => e = .returned (.bool true) ∧ w = w') := by
  have ho : (FloatKind.f64.format.order (x % 2 ^ 63) 9218868437227405311 == some .gt) = true := by rw [hi]; decide +kernel
  have := isInfA x w h
  rw [ho] at this
  exact this
theorem mNaN (w : World) : Calls Tryd.prog 24 #[] w (fun e w' => e = .returned (.float .f64 NQ) ∧ w = w') := by
  have h2 := frombits
  go_enter Tryd.func24, Tryd.ntmps24
  go_wp2_with fail
  go_ret
  exact ⟨rfl, rfl⟩
theorem ord_isnan {x : Nat} (h : IsNaN x) (y : Nat) : FloatKind.f64.format.order x y = none := by
  obtain ⟨s, t, e⟩ := nan_read h
  show Ieee.double.order x y = none
  unfold Ieee.Format.order
  rw [e]; rfl
/-- The answer v, up to a NaN; memory below stands. -/
def VE (v : Nat) (w : World) (e : Ending) (w' : World) : Prop := ∃ u, e = .returned (.float .f64 u) ∧ Eqv u v ∧ Below w.heap.size w w'
theorem VE.of_vp {v : Nat} {w : World} {e : Ending} {w' : World} (h : VP v w e w') : VE v w e w' := ⟨v, h.1, Eqv.refl v, h.2⟩
theorem VE.of_fp {v : Nat} {w : World} {e : Ending} {w' : World} (h : FP v w e w') : VE v w e w' := by
  obtain ⟨u, k, h1, h2, rfl⟩ := h
  exact ⟨u, h1, h2, below_dn w k⟩
theorem cosN (x : Nat) (w : World) (h : IsNaN x) : Calls Tryd.prog 19 #[.float .f64 x] w (VE NQ w) := by
  have n1 : (FloatKind.f64.format.order x x != some .eq) = true := by rw [ord_isnan h]; rfl
  have N1 := Lib.hid (fun W => (show Calls Tryd.prog 22 #[.float .f64 x] W (fun e w' => e = .returned (.bool true) ∧ W = w') by have h := isNaN x W; rw [n1] at h; exact h))
  clear n1 h
  go_enter Tryd.func19, Tryd.ntmps19
  go_wp2_with (first
    | (go_at_call 22; refine (N1.out _).mono ?_; rintro e w' ⟨rfl, rfl⟩)
    | (go_at_call 24; refine (mNaN _).mono ?_; rintro e w' ⟨rfl, rfl⟩))
  go_ret
  exact ⟨_, rfl, Eqv.refl _, Below.refl _ _⟩
theorem cosI (x : Nat) (w : World) (hx : x < 2 ^ 64) (h : x % 2 ^ 63 = 2047 * 2 ^ 52) : Calls Tryd.prog 19 #[.float .f64 x] w (VE NQ w) := by
  obtain ⟨b, hb⟩ : ∃ b, (FloatKind.f64.format.order x x != some .eq) = b := ⟨_, rfl⟩
  have N1 := Lib.hid (fun W => (show Calls Tryd.prog 22 #[.float .f64 x] W (fun e w' => e = .returned (.bool b) ∧ W = w') by have h := isNaN x W; rw [hb] at h; exact h))
  have N2 := Lib.hid (fun W => isInf_inf x W hx h)
  clear hb h hx
  cases b <;>
  · go_enter Tryd.func19, Tryd.ntmps19
    go_wp2_with (first
      | (go_at_call 22; refine (N1.out _).mono ?_; rintro e w' ⟨rfl, rfl⟩)
      | (go_at_call 23; refine (N2.out _).mono ?_; rintro e w' ⟨rfl, rfl⟩)
      | (go_at_call 24; refine (mNaN _).mono ?_; rintro e w' ⟨rfl, rfl⟩))
    go_ret
    exact ⟨_, rfl, Eqv.refl _, Below.refl _ _⟩
theorem sinN (x : Nat) (w : World) (h : IsNaN x) : Calls Tryd.prog 21 #[.float .f64 x] w (VE NQ w) := by
  have n0 : (FloatKind.f64.format.order x 0 == some .eq) = false := by rw [ord_isnan h]; rfl
  have n1 : (FloatKind.f64.format.order x x != some .eq) = true := by rw [ord_isnan h]; rfl
  have N1 := Lib.hid (fun W => (show Calls Tryd.prog 22 #[.float .f64 x] W (fun e w' => e = .returned (.bool true) ∧ W = w') by have h := isNaN x W; rw [n1] at h; exact h))
  have H := Lib.hid h
  clear n1 h
  go_enter Tryd.func21, Tryd.ntmps21
  go_wp2_with (first
    | (go_at_call 22; refine (N1.out _).mono ?_; rintro e w' ⟨rfl, rfl⟩)
    | (go_at_call 24; refine (mNaN _).mono ?_; rintro e w' ⟨rfl, rfl⟩))
  go_ret
  exact ⟨_, rfl, .inr ⟨H.out, nq_nan⟩, Below.refl _ _⟩
theorem inf_ord {x : Nat} (hx : x < 2 ^ 64) (h : x % 2 ^ 63 = 2047 * 2 ^ 52) : (FloatKind.f64.format.order x 0 == some .eq) = false ∧ (FloatKind.f64.format.order x x != some .eq) = false := by
  have : x = 2047 * 2 ^ 52 ∨ x = 2047 * 2 ^ 52 + 2 ^ 63 := by omega
  rcases this with rfl | rfl
  · decide +kernel
  · decide +kernel
theorem sinI (x : Nat) (w : World) (hx : x < 2 ^ 64) (h : x % 2 ^ 63 = 2047 * 2 ^ 52) : Calls Tryd.prog 21 #[.float .f64 x] w (VE NQ w) := by
  obtain ⟨n0, n1⟩ := inf_ord hx h
  have N1 := Lib.hid (fun W => (show Calls Tryd.prog 22 #[.float .f64 x] W (fun e w' => e = .returned (.bool false) ∧ W = w') by have h := isNaN x W; rw [n1] at h; exact h))
  have N2 := Lib.hid (fun W => isInf_inf x W hx h)
  clear n1 h hx
  go_enter Tryd.func21, Tryd.ntmps21
  go_wp2_with (first
    | (go_at_call 22; refine (N1.out _).mono ?_; rintro e w' ⟨rfl, rfl⟩)
    | (go_at_call 23; refine (N2.out _).mono ?_; rintro e w' ⟨rfl, rfl⟩)
    | (go_at_call 24; refine (mNaN _).mono ?_; rintro e w' ⟨rfl, rfl⟩))
  go_ret
  exact ⟨_, rfl, Eqv.refl _, Below.refl _ _⟩
theorem MP.drewN {w : World} (h : MP w) (m : Nat) : MP (w.drewN m) := h
theorem tr_at {ax z : Nat} {o : Int} (h : ∀ w, MP w → Calls Tryd.prog 26 #[.float .f64 ax] (w.drewN 0) (TP o z w)) (w : World) (hw : MP w) (m : Nat) :
    Calls Tryd.prog 26 #[.float .f64 ax] (w.drewN m) (TP o z w) := by
  refine (h (w.drewN m) (hw.drewN m)).mono ?_
  rintro e w' ⟨u, k, rfl, hu, rfl⟩
  exact ⟨u, m + k, rfl, hu, drewN_add w m k⟩
theorem fThr : FL.Fin 4737786807993761792 := by unfold FL.Fin; decide
theorem vThr : rv 4737786807993761792 = 536870912 := by decide +kernel
theorem fPi4 : FL.Fin 4605249457297304856 := by unfold FL.Fin; decide
theorem vPi4 : rv 4605249457297304856 ≤ 1 := by decide +kernel
/-- A finite number's reduction, by either road. -/
inductive Way (ax : Nat) (o : Int) (z : Nat) : Prop
  | small : (FloatKind.f64.format.order ax 4737786807993761792 == some .gt || FloatKind.f64.format.order ax 4737786807993761792 == some .eq) = false → Red ax o z → Way ax o z
  | great : (FloatKind.f64.format.order ax 4737786807993761792 == some .gt || FloatKind.f64.format.order ax 4737786807993761792 == some .eq) = true → (o = 0 ∨ o = 2 ∨ o = 4 ∨ o = 6) →
      (∀ w, MP w → Calls Tryd.prog 26 #[.float .f64 ax] (w.drewN 0) (TP o z w)) → Way ax o z
theorem way (ax : Nat) (hf : FL.Fin ax) (hx : ax < 2 ^ 63) (h0 : 0 ≤ rv ax) : ∃ o z, Way ax o z := by
  by_cases hb : (FloatKind.f64.format.order ax 4737786807993761792 == some .gt || FloatKind.f64.format.order ax 4737786807993761792 == some .eq) = true
  · have h1 : 536870912 ≤ rv ax := by
      have := (ge_iff hf fThr).symm.trans hb
      rw [decide_eq_true_iff, vThr] at this; exact this
    obtain ⟨k1, k2⟩ := exp_big hf hx h1
    have hlt : (FloatKind.f64.format.order ax 4605249457297304856 == some .lt) = false := by
      show (Ieee.double.order _ _ == some .lt) = false
      rw [lt_iff hf fPi4, decide_eq_false_iff_not]
      have := vPi4
      grind
    obtain ⟨o, z, ho, h⟩ := trR ax hx k1 k2 hlt
    exact ⟨o, z, .great hb ho h⟩
  · have hb' := Bool.eq_false_iff.2 hb
    have h1 : rv ax ≤ 536870912 := by
      have := (ge_iff hf fThr).symm.trans hb'
      rw [decide_eq_false_iff_not, vThr] at this; grind
    obtain ⟨o, z, h⟩ := red_any ax hf h0 h1
    exact ⟨o, z, .small hb' h⟩
theorem inf_of {x : Nat} (hn : ¬ IsNaN x) (hf : ¬ FL.Fin x) : x % 2 ^ 63 = 2047 * 2 ^ 52 := by
  unfold IsNaN at hn; unfold FL.Fin at hf; omega
theorem mod_nan {b : Int} {x : Nat} (hn : IsNaN x) : ¬ Mod b x := fun h => by
  have := h.2.1; unfold IsNaN at hn; unfold FL.Fin at this; omega
theorem boT : BO (-310) := by unfold BO; decide
theorem cosA (x : Nat) (hx : x < 2 ^ 64) : ∃ v, (Mod (-310) x → Val (-310) v ∧ (rv x = 0 → rv v = 1)) ∧ ∀ w x', Eqv x' x → SC w → MP w → Calls Tryd.prog 19 #[.float .f64 x'] w (VE v w) := by
  by_cases hn : IsNaN x
  · refine ⟨NQ, fun h => absurd h (mod_nan hn), fun w x' he _ _ => cosN x' w ?_⟩
    rcases he with rfl | h
    · exact hn
    · exact h.1
  by_cases hm : Mod (-310) x
  · obtain ⟨v, h1, h2, h3⟩ := cosC boT x hm
    refine ⟨v, fun _ => ⟨h1, h2⟩, fun w x' he hT _ => ?_⟩
    rw [he.eq hn]
    exact (h3 w hT).mono fun e w' h => VE.of_vp h
  by_cases hf : FL.Fin x
  · obtain ⟨fa, a0, -⟩ := abs_rv hf
    obtain ⟨o, z, h⟩ := way (x % 2 ^ 63) fa (Nat.mod_lt _ (by decide)) a0
    refine ⟨cosO o z, fun h => absurd h hm, fun w x' he hT hM => ?_⟩
    rw [he.eq hn]
    cases h with
    | small hb hr => exact (cosM x (x % 2 ^ 63) z o w hT (ord_nan hf) (fun W => isInf_fin x W hx hf) (fun W => absF x W hx) hb hr).mono fun e w' h => VE.of_fp h
    | great hb ho h => exact (cosB x (x % 2 ^ 63) z o w hT (ord_nan hf) (fun W => isInf_fin x W hx hf) (fun W => absF x W hx) hb ho (fun m => tr_at h w hM m)).mono fun e w' h => VE.of_fp h
  · refine ⟨NQ, fun h => absurd h.2.1 hf, fun w x' he _ _ => ?_⟩
    rw [he.eq hn]
    exact cosI x w hx (inf_of hn hf)
theorem sg_abs {x : Nat} (hx : x < 2 ^ 64) (hf : FL.Fin x) (h0 : rv x ≠ 0) : sg? (FloatKind.f64.format.order x 0 == some .lt) x = x % 2 ^ 63 := by
  rw [neg_order hf]
  obtain ⟨fa, a0, ar⟩ := abs_rv hf
  by_cases hs : rv x < 0
  · rw [decide_eq_true hs]
    show x ^^^ 2 ^ 63 = _
    have h1 := xor_mod x
    have h2 := xor_sign x
    have h3 := neg_lt hx
    have h4 : (x / 2 ^ 63 % 2 == 1) = true := by
      apply Classical.byContradiction
      intro hc
      have : x = x % 2 ^ 63 := by
        have : ¬ x / 2 ^ 63 % 2 = 1 := by simpa using hc
        omega
      rw [← this] at a0
      grind
    rw [h4] at h2
    have h5 : ¬ (x ^^^ 2 ^ 63) / 2 ^ 63 % 2 = 1 := by simpa using h2
    omega
  · rw [decide_eq_false hs]
    show x = _
    rcases ar with ar | ar
    · obtain ⟨-, h | h⟩ := rv_inj hf fa ar.symm
      · omega
      · exact absurd h h0
    · grind
theorem sinA (x : Nat) (hx : x < 2 ^ 64) : ∃ v, (Mod (-310) x → Val (-310) v) ∧ (FL.Fin x → rv x = 0 → FL.Fin v ∧ rv v = 0) ∧ ∀ w x', Eqv x' x → SC w → MP w → Calls Tryd.prog 21 #[.float .f64 x'] w (VE v w) := by
  by_cases hn : IsNaN x
  · refine ⟨NQ, fun h => absurd h (mod_nan hn), fun h => absurd h (by unfold IsNaN at hn; unfold FL.Fin; omega), fun w x' he _ _ => sinN x' w ?_⟩
    rcases he with rfl | h
    · exact hn
    · exact h.1
  by_cases hm : Mod (-310) x
  · obtain ⟨v, h1, h2, h3⟩ := sinC boT x hm
    refine ⟨v, fun _ => h1, fun _ h => ⟨h1.1, h2 h⟩, fun w x' he hT _ => ?_⟩
    rw [he.eq hn]
    exact (h3 w hT).mono fun e w' h => VE.of_vp h
  by_cases hf : FL.Fin x
  · have h0 : rv x ≠ 0 := fun h => hm ⟨hx, hf, by rw [h]; decide +kernel, by rw [h]; decide +kernel, .inl h⟩
    obtain ⟨fa, a0, -⟩ := abs_rv hf
    obtain ⟨o, z, h⟩ := way (x % 2 ^ 63) fa (Nat.mod_lt _ (by decide)) a0
    obtain ⟨s, hs⟩ : ∃ s, (FloatKind.f64.format.order x 0 == some .lt) = s := ⟨_, rfl⟩
    have hax := sg_abs hx hf h0
    rw [hs] at hax
    have n0 : (FloatKind.f64.format.order x 0 == some .eq) = false := by rw [zero_order hf]; exact decide_eq_false h0
    refine ⟨sinO s o z, fun h => absurd h hm, fun _ h => absurd h h0, fun w x' he hT hM => ?_⟩
    rw [he.eq hn]
    cases h with
    | small hb hr => exact (sinM x (x % 2 ^ 63) z s o w hT n0 (ord_nan hf) (fun W => isInf_fin x W hx hf) hs hax.symm hb hr).mono fun e w' h => VE.of_fp h
    | great hb ho h => exact (sinB x (x % 2 ^ 63) z s o w hT n0 (ord_nan hf) (fun W => isInf_fin x W hx hf) hs hax.symm hb ho (fun m => tr_at h w hM m)).mono fun e w' h => VE.of_fp h
  · refine ⟨NQ, fun h => absurd h.2.1 hf, fun h => absurd h hf, fun w x' he _ _ => ?_⟩
    rw [he.eq hn]
    exact sinI x w hx (inf_of hn hf)
end Go.Proofs.YtpkhfknjajehnaaDoor.F64
