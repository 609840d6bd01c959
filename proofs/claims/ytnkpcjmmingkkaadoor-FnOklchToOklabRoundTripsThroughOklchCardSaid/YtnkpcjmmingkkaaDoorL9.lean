/- FnOklchToOklabRoundTripsThroughOklch: the law, walked. -/
import Derived.Test.YtnkpcjmmingkkaaDoorOw
import Derived.Test.YtnkpcjmmingkkaaDoorRt
import Derived.LoopTactic
namespace Go.Proofs.YtnkpcjmmingkkaaDoor.F64
open Go Go.RowKit Go.Lib Go.Proofs.YtnkpcjmmingkkaaDoor.FL
set_option linter.unusedVariables false
theorem ord_isnan3 {x : Nat} (h : IsNaN x) (y : Nat) : FloatKind.f64.format.order x y = none := by
  obtain ⟨s, t, e⟩ := nan_read h
  show Ieee.double.order x y = none
  unfold Ieee.Format.order
  rw [e]; rfl
theorem ord_self3 {x : Nat} (h : ¬ IsNaN x) : (FloatKind.f64.format.order x x == some .eq) = true := by
  by_cases hf : FL.Fin x
  · show (Ieee.double.order x x == some .eq) = true
    rw [eq_iff hf hf]; exact decide_eq_true rfl
  · have hi : x % 2 ^ 63 = 2047 * 2 ^ 52 := by unfold IsNaN at h; unfold FL.Fin at hf; omega
    have hr := read_inf hi
    show (Ieee.double.order x x == some .eq) = true
    unfold Ieee.Format.order
    rw [hr]
    cases (x / 2 ^ 63 % 2 == 1) <;> rfl
theorem same3 (x : Nat) (w : World) : Calls Tryd.prog 5 #[.float .f64 x, .float .f64 x] w fun e w' => e = .returned (.bool true) ∧ w = w' := by
  by_cases hn : IsNaN x
  · have o1 : (FloatKind.f64.format.order x x == some .eq) = false := by rw [ord_isnan3 hn]; rfl
    have o2 : (FloatKind.f64.format.order x x != some .eq) = true := by rw [ord_isnan3 hn]; rfl
    clear hn
    go_enter Tryd.func5, Tryd.ntmps5
    go_wp2
    go_ret
    exact ⟨rfl, rfl⟩
  · have o1 := ord_self3 hn
    clear hn
    go_enter Tryd.func5, Tryd.ntmps5
    go_wp2
    go_ret
    exact ⟨rfl, rfl⟩
def absAny (x : Nat) : Nat := if (Ieee.double.order x 0 == some .lt) = true then Op.negFloat .f64 x else x
theorem zzAbsAny (x : Nat) (w : World) : Calls Tryd.prog 7 #[.float .f64 x] w fun e w' => e = .returned (.float .f64 (absAny x)) ∧ w = w' := by
  cases hn : (Ieee.double.order x 0 == some .lt)
  · have o1 : (FloatKind.f64.format.order x 0 == some .lt) = false := hn
    have HA := Lib.hid (show absAny x = x by unfold absAny; rw [if_neg (by rw [hn]; simp)])
    clear hn
    go_enter Tryd.func7, Tryd.ntmps7
    go_wp2
    go_ret
    exact ⟨by rw [HA.out]; rfl, rfl⟩
  · have o1 : (FloatKind.f64.format.order x 0 == some .lt) = true := hn
    have HA := Lib.hid (show absAny x = Op.negFloat .f64 x by unfold absAny; rw [if_pos hn])
    clear hn
    go_enter Tryd.func7, Tryd.ntmps7
    go_wp2
    go_ret
    exact ⟨by rw [HA.out]; rfl, rfl⟩
def geB (x y : Nat) : Bool := (FloatKind.f64.format.order x y == some .gt || FloatKind.f64.format.order x y == some .eq)
def leB (x y : Nat) : Bool := (FloatKind.f64.format.order x y == some .lt || FloatKind.f64.format.order x y == some .eq)
theorem abs_le {d t : Nat} (fd : FL.Fin d) (ft : FL.Fin t) (h1 : -rv t ≤ rv d) (h2 : rv d ≤ rv t) : leB (absAny d) t = true := by
  have key : FL.Fin (absAny d) ∧ (rv (absAny d) = rv d ∨ rv (absAny d) = -rv d) := by
    by_cases hn : (Ieee.double.order d 0 == some .lt) = true
    · have e : absAny d = d ^^^ 2 ^ 63 := by unfold absAny; rw [if_pos hn]; rfl
      rw [e]
      exact ⟨neg_fin fd, .inr (neg_rv fd)⟩
    · have e : absAny d = d := by unfold absAny; rw [if_neg hn]
      rw [e]
      exact ⟨fd, .inl rfl⟩
  show (Ieee.double.order (absAny d) t == some .lt || Ieee.double.order (absAny d) t == some .eq) = true
  rw [le_iff key.1 ft, decide_eq_true_iff]
  rcases key.2 with e | e <;> rw [e] <;> grind
theorem fC1 : FL.Fin 3110860544497550640 := by unfold FL.Fin; decide
theorem fC2 : FL.Fin 6103021453049119613 := by unfold FL.Fin; decide
theorem vC1 : 1 / 10 ^ 101 ≤ rv 3110860544497550640 := by decide +kernel
theorem vC2 : rv 6103021453049119613 ≤ 10 ^ 101 := by decide +kernel
theorem fH1 : FL.Fin 13890095209322119168 := by unfold FL.Fin; decide
theorem fH2 : FL.Fin 4666723172467343360 := by unfold FL.Fin; decide
theorem vH1 : rv 13890095209322119168 = -10000 := by decide +kernel
theorem vH2 : rv 4666723172467343360 = 10000 := by decide +kernel
theorem fG1 : FL.Fin 13894598808949489664 := by unfold FL.Fin; decide
theorem fG2 : FL.Fin 4671226772094713856 := by unfold FL.Fin; decide
theorem vG1 : rv 13894598808949489664 = -20000 := by decide +kernel
theorem vG2 : rv 4671226772094713856 = 20000 := by decide +kernel
theorem f12 : FL.Fin 4427486594234968593 := by unfold FL.Fin; decide
theorem v12 : 99 / 100000000000000 ≤ rv 4427486594234968593 ∧ rv 4427486594234968593 ≤ 101 / 100000000000000 := by decide +kernel
theorem f180 : FL.Fin 4640537203540230144 := by unfold FL.Fin; decide
theorem v180 : rv 4640537203540230144 = 180 := by decide +kernel
theorem fm180 : FL.Fin 13863909240395005952 := by unfold FL.Fin; decide
theorem vm180 : rv 13863909240395005952 = -180 := by decide +kernel
theorem f8 : FL.Fin 4487126258331716666 := by unfold FL.Fin; decide
theorem v8 : 99 / 10000000000 ≤ rv 4487126258331716666 := by decide +kernel
/-- A difference of hues: whole turns and a little. -/
def DL (d : Nat) : Prop := FL.Fin d ∧ ∃ n k : Int, 0 ≤ k ∧ -31 + k ≤ n ∧ n ≤ 31 - k ∧ -(83 / 10000000000 + (k : Rat) * (1 / 100000000000)) ≤ rv d - 360 * (n : Rat) ∧ rv d - 360 * (n : Rat) ≤ 83 / 10000000000 + (k : Rat) * (1 / 100000000000)
def DM (d : Nat) : Prop := FL.Fin d ∧ ∃ n k : Int, n ≤ 0 ∧ 0 ≤ k ∧ -31 + k ≤ n ∧ n ≤ 31 - k ∧ -(83 / 10000000000 + (k : Rat) * (1 / 100000000000)) ≤ rv d - 360 * (n : Rat) ∧ rv d - 360 * (n : Rat) ≤ 83 / 10000000000 + (k : Rat) * (1 / 100000000000)
def mea1 : Value → Nat
  | .float .f64 x => ((rv x).floor + 100000).toNat
  | _ => 0
def mea2 : Value → Nat
  | .float .f64 x => (100000 - (rv x).floor).toNat
  | _ => 0
theorem kb {k n : Int} (k0 : 0 ≤ k) (h1 : -31 + k ≤ n) (h2 : n ≤ 31 - k) : (0 : Rat) ≤ (k : Rat) ∧ (k : Rat) ≤ 31 ∧ -31 ≤ (n : Rat) ∧ (n : Rat) ≤ 31 := by
  refine ⟨by exact_mod_cast k0, ?_, ?_, ?_⟩
  · have : (k : Rat) ≤ (((31 : Int)) : Rat) := Rat.intCast_le_intCast.2 (by omega)
    exact this
  · have : (((-31 : Int)) : Rat) ≤ (n : Rat) := Rat.intCast_le_intCast.2 (by omega)
    exact this
  · have : (n : Rat) ≤ (((31 : Int)) : Rat) := Rat.intCast_le_intCast.2 (by omega)
    exact this
theorem fl_lt {x y : Rat} (h : x ≤ y - 300) : x.floor < y.floor := by
  have a : ((x.floor : Int) : Rat) ≤ x := Rat.le_floor_iff.1 (Int.le_refl _)
  have b : (x.floor + 1) ≤ y.floor := by
    apply Rat.le_floor_iff.2
    rw [Rat.intCast_add, show (((1 : Int)) : Rat) = 1 by rfl]
    grind
  omega
theorem dl_down {d : Nat} (h : DL d) (hg : (FloatKind.f64.format.order d 4640537203540230144 == some .gt) = true) : ∃ d2, floatBits .sub .f64 d 4645040803167600640 = some d2 ∧ DL d2 ∧ mea1 (.float .f64 d2) < mea1 (.float .f64 d) := by
  obtain ⟨fd, n, k, k0, n1, n2, e1, e2⟩ := h
  have el := eta_le
  have big := big_le
  obtain ⟨kb0, kb1, nb1, nb2⟩ := kb k0 n1 n2
  have hg2 := (gt_iff fd f180).symm.trans hg
  rw [decide_eq_true_iff, v180] at hg2
  have hn : 1 ≤ n := by
    apply Classical.byContradiction
    intro hc
    have : (n : Rat) ≤ (((0 : Int)) : Rat) := Rat.intCast_le_intCast.2 (by omega)
    rw [q00] at this
    grind
  obtain ⟨d2, hd, r, -⟩ := sub_rnd fd f360 (by rw [v360]; grind) (by rw [v360]; grind)
  rw [v360] at r
  have x := r.err 12000 (by grind) (by grind)
  rw [u53_eq] at x
  refine ⟨d2, hd, ⟨r.fin, n - 1, k + 1, by omega, by omega, by omega, ?_, ?_⟩, ?_⟩
  · rw [Rat.intCast_sub, Rat.intCast_add, q01]; grind
  · rw [Rat.intCast_sub, Rat.intCast_add, q01]; grind
  · have f := fl_lt (x := rv d2) (y := rv d) (by grind)
    have g : 180 ≤ (rv d).floor := Rat.le_floor_iff.2 (by rw [show (((180 : Int)) : Rat) = 180 by rfl]; grind)
    simp only [mea1]
    omega
theorem dl_stop {d : Nat} (h : DL d) (hg : (FloatKind.f64.format.order d 4640537203540230144 == some .gt) = false) : DM d := by
  obtain ⟨fd, n, k, k0, n1, n2, e1, e2⟩ := h
  obtain ⟨kb0, kb1, nb1, nb2⟩ := kb k0 n1 n2
  have hg2 := (gt_iff fd f180).symm.trans hg
  rw [decide_eq_false_iff_not, v180] at hg2
  refine ⟨fd, n, k, ?_, k0, n1, n2, e1, e2⟩
  apply Classical.byContradiction
  intro hc
  have : (((1 : Int)) : Rat) ≤ (n : Rat) := Rat.intCast_le_intCast.2 (by omega)
  rw [q01] at this
  grind
theorem dm_up {d : Nat} (h : DM d) (hg : (FloatKind.f64.format.order d 13863909240395005952 == some .lt) = true) : ∃ d2, floatBits .add .f64 d 4645040803167600640 = some d2 ∧ DM d2 ∧ mea2 (.float .f64 d2) < mea2 (.float .f64 d) := by
  obtain ⟨fd, n, k, nn, k0, n1, n2, e1, e2⟩ := h
  have el := eta_le
  have big := big_le
  obtain ⟨kb0, kb1, nb1, nb2⟩ := kb k0 n1 n2
  have hg2 := (lt_iff fd fm180).symm.trans hg
  rw [decide_eq_true_iff, vm180] at hg2
  have hn : n ≤ -1 := by
    apply Classical.byContradiction
    intro hc
    have : (((0 : Int)) : Rat) ≤ (n : Rat) := Rat.intCast_le_intCast.2 (by omega)
    rw [q00] at this
    grind
  obtain ⟨d2, hd, r, -⟩ := add_rnd fd f360 (by rw [v360]; grind) (by rw [v360]; grind)
  rw [v360] at r
  have x := r.err 12000 (by grind) (by grind)
  rw [u53_eq] at x
  refine ⟨d2, hd, ⟨r.fin, n + 1, k + 1, by omega, by omega, by omega, by omega, ?_, ?_⟩, ?_⟩
  · rw [Rat.intCast_add, Rat.intCast_add, q01]; grind
  · rw [Rat.intCast_add, Rat.intCast_add, q01]; grind
  · have f := fl_lt (x := rv d) (y := rv d2) (by grind)
    have g : (rv d).floor ≤ 0 := by
      have a : (((rv d).floor : Int) : Rat) ≤ rv d := Rat.le_floor_iff.1 (Int.le_refl _)
      have b : (((rv d).floor : Int) : Rat) ≤ (((0 : Int)) : Rat) := by rw [q00]; grind
      exact Rat.intCast_le_intCast.1 b
    simp only [mea2]
    omega
theorem dm_stop {d : Nat} (h : DM d) (hg : (FloatKind.f64.format.order d 13863909240395005952 == some .lt) = false) : leB (absAny d) 4487126258331716666 = true := by
  obtain ⟨fd, n, k, nn, k0, n1, n2, e1, e2⟩ := h
  obtain ⟨kb0, kb1, nb1, nb2⟩ := kb k0 n1 n2
  have hg2 := (lt_iff fd fm180).symm.trans hg
  rw [decide_eq_false_iff_not, vm180] at hg2
  have hn : n = 0 := by
    apply Classical.byContradiction
    intro hc
    have : (n : Rat) ≤ (((-1 : Int)) : Rat) := Rat.intCast_le_intCast.2 (by omega)
    rw [qm1] at this
    grind
  subst hn
  rw [q00] at e1 e2
  have v := v8
  exact abs_le fd f8 (by grind) (by grind)
/-- All the words of the round trip. -/
structure Trip (c h r cw sw p q aa bb ss cc h0 hh d e t : Nat) : Prop where
  hr : floatBits .mul .f64 h 4580687790476533049 = some r
  hp : floatBits .mul .f64 cw c = some p
  hq : floatBits .mul .f64 sw c = some q
  fp : FL.Fin p
  fq : FL.Fin q
  lp : p < 2 ^ 64
  lq : q < 2 ^ 64
  C : Chro p q aa bb ss cc
  h1 : floatBits .mul .f64 (a2V q p) 4633260481411531256 = some h0
  h2 : if (FloatKind.f64.format.order h0 0 == some .lt) = true then floatBits .add .f64 h0 4645040803167600640 = some hh else hh = h0
  he : floatBits .sub .f64 cc c = some e
  ht : floatBits .mul .f64 4427486594234968593 c = some t
  ec : leB (absAny e) t = true
  hd : floatBits .sub .f64 hh h = some d
  dl : DL d
  g1 : geB d 13894598808949489664 = true
  g2 : leB d 4671226772094713856 = true
theorem trip (c h : Nat) (fc : FL.Fin c) (c1 : 1 / 10 ^ 101 ≤ rv c) (c2 : rv c ≤ 10 ^ 101) (fh : FL.Fin h) (h1 : -10000 ≤ rv h) (h2 : rv h ≤ 10000) : ∃ r cw sw p q aa bb ss cc h0 hh d e t, Trip c h r cw sw p q aa bb ss cc h0 hh d e t ∧
    (∀ w, SC w → Calls Tryd.prog 28 #[.float .f64 r] w (VP cw w)) ∧ (∀ w, SC w → Calls Tryd.prog 30 #[.float .f64 r] w (VP sw w)) := by
  have el := eta_le
  have ep := eta_pos
  have big := big_le
  have vr := vRD
  have cpos : (0 : Rat) < rv c := by have : (0 : Rat) < 1 / 10 ^ 101 := by decide +kernel
                                     grind
  have m := mul_abs (x := rv h) (d := rv 4580687790476533049) (X := 10000) (E := 18 / 1000) h1 h2 (by grind) (by grind)
  obtain ⟨r, hr, rr, -, -⟩ := mul_rnd fh fRD (by grind) (by grind)
  have xr := rr.err 180 (by grind) (by grind)
  rw [u53_eq] at xr
  obtain ⟨Y, z, cw, sw, ci, HC, HS⟩ := sincos r rr.lt rr.fin (by grind) (by grind)
  have z1 := ci.z1
  have z2 := ci.z2
  have oc := circ1 (Y % 8) z (by grind) (by grind)
  have qC := PL.sq_nn (cosY (Y % 8) z)
  have qS := PL.sq_nn (sinY (Y % 8) z)
  have cC1 : cosY (Y % 8) z ≤ 1 ∧ -1 ≤ cosY (Y % 8) z ∧ sinY (Y % 8) z ≤ 1 ∧ -1 ≤ sinY (Y % 8) z := by
    have sb := PL.Sv_bd (y := z) (by grind) (by grind)
    have cl := PL.Cv_le1 (z := z) (by grind) (by grind)
    have cg := PL.Cv_ge (y := z) (by grind) (by grind)
    unfold cosY sinY
    split
    · refine ⟨cl, by grind, sb.2, sb.1⟩
    · split
      · refine ⟨by grind, by grind, cl, by grind⟩
      · split <;> refine ⟨by grind, by grind, by grind, by grind⟩
  obtain ⟨p, hp, fp, lp, pa1, pa2⟩ := leg ci.fc fc c1 c2 cC1.2.1 cC1.1 ci.c1 ci.c2
  obtain ⟨q, hq, fq, lq, qa1, qa2⟩ := leg ci.fs fc c1 c2 cC1.2.2.2 cC1.2.2.1 ci.s1 ci.s2
  have cc1 := mul_abs (x := rv c) (d := cosY (Y % 8) z) (X := rv c) (E := 1) (by grind) (by grind) cC1.2.1 cC1.1
  have cs1 := mul_abs (x := rv c) (d := sinY (Y % 8) z) (X := rv c) (E := 1) (by grind) (by grind) cC1.2.2.2 cC1.2.2.1
  obtain ⟨aa, bb, ss, cc, C, -⟩ := chro p q fp fq (2 * 10 ^ 101) (by unfold p2; decide +kernel) (by grind) (by grind) (by grind) (by grind)
  obtain ⟨ft, tu⟩ := a2_turn q p fq fp
  obtain ⟨⟨qa, k2, sx, sy, A, hx, hy, u1, u2⟩, tb1, tb2⟩ := tu
  have tu' : Turn q p (rv (a2V q p)) := ⟨⟨qa, k2, sx, sy, A, hx, hy, u1, u2⟩, tb1, tb2⟩
  obtain ⟨h0, hh, r', HW⟩ := hueW q p (a2V q p) ft tu'
  obtain ⟨k1, k10, k11, w1, w2⟩ := deg_of ft rfl tb1 tb2 HW.h1 HW.h2
  obtain ⟨k, t1, t2⟩ := turnback A hx hy cpos (oct ci.even) z1 z2 (by grind) (by grind) (by grind) (by grind)
  obtain ⟨n, n1, n2, d1, d2⟩ := hue_back h1 h2 (by grind) (by grind) ci.r1 ci.r2 t1 t2 u1 u2 tb1 tb2 k10 k11 w1 w2
  have cb := chro_back C.rad c1 cC1.2.1 cC1.1 cC1.2.2.2 cC1.2.2.1 oc.1 oc.2 pa1 pa2 qa1 qa2
  have hb1 := HW.b1
  have hb2 := HW.b2
  -- the chroma's test
  have bigc : 2 * (10 ^ 101 : Rat) ≤ p2 1023 := by unfold p2; decide +kernel
  obtain ⟨e, he, re, -⟩ := sub_rnd C.fin fc (by grind) (by grind)
  have xe := re.err (rv c * (4 / 10000000000000)) (by grind) (by grind)
  have v := v12
  have mt := mul_abs (x := rv 4427486594234968593) (d := rv c) (X := 1) (E := rv c) (by grind) (by grind) (by grind) (by grind)
  obtain ⟨t, ht, rt, -, -⟩ := mul_rnd f12 fc (by grind) (by grind)
  have k3 := Rat.mul_nonneg (show 0 ≤ rv 4427486594234968593 - 99 / 100000000000000 by grind) (Rat.le_of_lt cpos)
  have k4 := Rat.mul_nonneg (show 0 ≤ 101 / 100000000000000 - rv 4427486594234968593 by grind) (Rat.le_of_lt cpos)
  have xt := rt.err (rv c * (101 / 100000000000000)) (by grind) (by grind)
  rw [u53_eq] at xe xt
  have etac : eta ≤ rv c * (1 / 100000000000000000000) := by
    have a : eta ≤ 1 / 10 ^ 101 * (1 / 100000000000000000000) := by unfold eta p2; decide +kernel
    have b := Rat.mul_le_mul_of_nonneg_right c1 (show (0 : Rat) ≤ 1 / 100000000000000000000 by decide +kernel)
    grind
  have ec : leB (absAny e) t = true := abs_le re.fin rt.fin (by grind) (by grind)
  -- the hue's test
  obtain ⟨d, hd, rd, -⟩ := sub_rnd HW.fh fh (by grind) (by grind)
  have xd := rd.err 10360 (by grind) (by grind)
  rw [u53_eq] at xd
  have dl : DL d := by
    refine ⟨rd.fin, n, 0, by omega, by omega, by omega, ?_, ?_⟩ <;> rw [q00] <;> grind
  have g1 : geB d 13894598808949489664 = true := by
    show (Ieee.double.order d 13894598808949489664 == some .gt || Ieee.double.order d 13894598808949489664 == some .eq) = true
    rw [ge_iff rd.fin fG1, vG1]; exact decide_eq_true (by grind)
  have g2 : leB d 4671226772094713856 = true := by
    show (Ieee.double.order d 4671226772094713856 == some .lt || Ieee.double.order d 4671226772094713856 == some .eq) = true
    rw [le_iff rd.fin fG2, vG2]; exact decide_eq_true (by grind)
  exact ⟨r, cw, sw, p, q, aa, bb, ss, cc, h0, hh, d, e, t, ⟨hr, hp, hq, fp, fq, lp, lq, C, HW.h1, HW.h2, he, ht, ec, hd, dl, g1, g2⟩, HC, HS⟩
set_option maxRecDepth 100000 in
set_option maxHeartbeats 4000000 in
theorem law (l c h : Nat) (w : World) (_hl : (Lit.float .f64 l).wf = true) (hc : (Lit.float .f64 c).wf = true) (hh' : (Lit.float .f64 h).wf = true) (hT : SC w) : Calls Tryd.prog 3 #[.float .f64 l, .float .f64 c, .float .f64 h] w fun e w' => e = .returned (.bool true) ∧ Below w.heap.size w w' := by
  clear hc hh'
  cases hc1 : geB c 3110860544497550640
  case false =>
    have o1 : (FloatKind.f64.format.order c 3110860544497550640 == some .gt || FloatKind.f64.format.order c 3110860544497550640 == some .eq) = false := hc1
    clear hc1 hT
    go_enter Tryd.func3, Tryd.ntmps3
    go_wp2
    go_ret
    exact ⟨rfl, Below.refl _ _⟩
  case true =>
  have o1 : (FloatKind.f64.format.order c 3110860544497550640 == some .gt || FloatKind.f64.format.order c 3110860544497550640 == some .eq) = true := hc1
  cases hc2 : leB c 6103021453049119613
  case false =>
    have o2 : (FloatKind.f64.format.order c 6103021453049119613 == some .lt || FloatKind.f64.format.order c 6103021453049119613 == some .eq) = false := hc2
    clear hc1 hc2 hT
    go_enter Tryd.func3, Tryd.ntmps3
    go_wp2
    go_ret
    exact ⟨rfl, Below.refl _ _⟩
  case true =>
  have o2 : (FloatKind.f64.format.order c 6103021453049119613 == some .lt || FloatKind.f64.format.order c 6103021453049119613 == some .eq) = true := hc2
  cases hh1 : geB h 13890095209322119168
  case false =>
    have o3 : (FloatKind.f64.format.order h 13890095209322119168 == some .gt || FloatKind.f64.format.order h 13890095209322119168 == some .eq) = false := hh1
    clear hc1 hc2 hh1 hT
    go_enter Tryd.func3, Tryd.ntmps3
    go_wp2
    go_ret
    exact ⟨rfl, Below.refl _ _⟩
  case true =>
  have o3 : (FloatKind.f64.format.order h 13890095209322119168 == some .gt || FloatKind.f64.format.order h 13890095209322119168 == some .eq) = true := hh1
  cases hh2 : leB h 4666723172467343360
  case false =>
    have o4 : (FloatKind.f64.format.order h 4666723172467343360 == some .lt || FloatKind.f64.format.order h 4666723172467343360 == some .eq) = false := hh2
    clear hc1 hc2 hh1 hh2 hT
    go_enter Tryd.func3, Tryd.ntmps3
    go_wp2
    go_ret
    exact ⟨rfl, Below.refl _ _⟩
  case true =>
  have o4 : (FloatKind.f64.format.order h 4666723172467343360 == some .lt || FloatKind.f64.format.order h 4666723172467343360 == some .eq) = true := hh2
  have fc : FL.Fin c := fin_between fC1 fC2 hc1 hc2
  have fh : FL.Fin h := fin_between fH1 fH2 hh1 hh2
  have b1 := (ge_iff fc fC1).symm.trans hc1
  have b2 := (le_iff fc fC2).symm.trans hc2
  have b3 := (ge_iff fh fH1).symm.trans hh1
  have b4 := (le_iff fh fH2).symm.trans hh2
  rw [decide_eq_true_iff] at b1 b2
  rw [decide_eq_true_iff, vH1] at b3
  rw [decide_eq_true_iff, vH2] at b4
  obtain ⟨r, cw, sw, p, q, aa, bb, ss, cc, h0, hh, d, e, t, T, HC, HS⟩ := trip c h fc (Rat.le_trans vC1 b1) (Rat.le_trans b2 vC2) fh b3 b4
  obtain rfl := fop_some T.hp
  obtain rfl := fop_some T.hq
  have ZA := Lib.hid (fun W (hW : Below w.heap.size w W) => zzA l c h _ _ W (hT.below hW (Nat.le_refl _)) (fun W1 h1 => okA l c h _ _ W1 h1 (fun W2 h2 => polar l c h r cw sw W2 h2 T.hr HC HS T.hp T.hq)))
  have ZD := Lib.hid (fun W (hW : Below w.heap.size w W) => zzD l _ _ cc hh W (hT.below hW (Nat.le_refl _)) (fun W1 h1 => okB l _ _ cc hh W1 h1 (fun W2 h2 => lab l _ _ h0 hh aa bb ss cc _ W2 (fun W3 => mAtan2 _ _ T.lq T.lp T.fq T.fp W3) T.h1 T.h2 T.C.h1 T.C.h2 T.C.h3 T.C.h4)))
  have M1 := fun (t : TypeId) (w : World) => run_float_arith (P := Tryd.prog) w .sub t .f64 _ _ _ T.he
  have M2 := fun (t : TypeId) (w : World) => run_float_arith (P := Tryd.prog) w .mul t .f64 _ _ _ T.ht
  have M3 := fun (t : TypeId) (w : World) => run_float_arith (P := Tryd.prog) w .sub t .f64 _ _ _ T.hd
  have A1 := Lib.hid (fun W => zzAbsAny e W)
  have o5 : (FloatKind.f64.format.order (absAny e) t == some .lt || FloatKind.f64.format.order (absAny e) t == some .eq) = true := T.ec
  have o6 : (FloatKind.f64.format.order d 13894598808949489664 == some .gt || FloatKind.f64.format.order d 13894598808949489664 == some .eq) = true := T.g1
  have o7 : (FloatKind.f64.format.order d 4671226772094713856 == some .lt || FloatKind.f64.format.order d 4671226772094713856 == some .eq) = true := T.g2
  have DD := Lib.hid T.dl
  have SM := Lib.hid (fun W => same3 l W)
  clear T HC HS hc1 hc2 hh1 hh2 fc fh b1 b2 b3 b4 hT
  generalize fop .mul cw c = p at *
  generalize fop .mul sw c = q at *
  generalize absAny e = ae at *
  have bb' : Below w.heap.size w w := Below.refl _ _
  go_enter Tryd.func3, Tryd.ntmps3
  go_wp2_with (first
    | (go_at_call 4; refine (ZA.out _ (by assumption)).mono ?_; rintro e w1 ⟨rfl, bn⟩; have bb' := bb'.trans (bn.mono bb'.size); clear bn)
    | (go_at_call 6; refine (ZD.out _ (by assumption)).mono ?_; rintro e w2 ⟨rfl, bn⟩; have bb' := bb'.trans (bn.mono bb'.size); clear bn)
    | (go_at_call 5; refine (SM.out _).mono ?_; rintro e w' ⟨rfl, rfl⟩)
    | (go_at_call 7; refine (A1.out _).mono ?_; rintro e w' ⟨rfl, rfl⟩))
  clear ZA ZD SM M1 M2 M3 A1 o1 o2 o3 o4 o5 o6 o7
  go_loopw [13] (fun s wr => ∃ d' : Nat, s = .float .f64 d' ∧ Hid (DL d') ∧ wr = w2) (fun s _ => mea1 s)
  case atStart => exact ⟨_, rfl, DD, rfl⟩
  case round =>
    clear DD
    obtain ⟨d1, rfl, DD, hwr⟩ := hrel
    have hwr' := hwr.symm
    clear hwr
    subst hwr'
    cases og : (FloatKind.f64.format.order d1 4640537203540230144 == some .gt)
    case true =>
      obtain ⟨d2, hd, dn, hm⟩ := dl_down DD.out og
      have MS := fun (t : TypeId) (w : World) => run_float_arith (P := Tryd.prog) w .sub t .f64 _ _ _ hd
      have DN := Lib.hid dn
      have HM := Lib.hid hm
      clear hd dn hm
      go_wp2_with fail
      go_roundw
      case rel => exact ⟨_, rfl, DN, trivial⟩
      case measure => exact HM.out
    case false =>
      have DE := Lib.hid (dl_stop DD.out og)
      clear DD
      go_wp2_with fail
      clear og
      go_loopw [13] (fun s wr => ∃ d' : Nat, s = .float .f64 d' ∧ Hid (DM d') ∧ wr = w2) (fun s _ => mea2 s)
      case atStart => exact ⟨_, rfl, DE, rfl⟩
      case round =>
        clear DE
        obtain ⟨d3, rfl, DE, hwr⟩ := hrel
        have hwr' := hwr.symm
        clear hwr
        subst hwr'
        cases ol : (FloatKind.f64.format.order d3 13863909240395005952 == some .lt)
        case true =>
          obtain ⟨d4, hd, dn, hm⟩ := dm_up DE.out ol
          have MA := fun (t : TypeId) (w : World) => run_float_arith (P := Tryd.prog) w .add t .f64 _ _ _ hd
          have DN := Lib.hid dn
          have HM := Lib.hid hm
          clear hd dn hm
          go_wp2_with fail
          go_roundw
          case rel => exact ⟨_, rfl, DN, trivial⟩
          case measure => exact HM.out
        case false =>
          have o8 : (FloatKind.f64.format.order (absAny d3) 4487126258331716666 == some .lt || FloatKind.f64.format.order (absAny d3) 4487126258331716666 == some .eq) = true := dm_stop DE.out ol
          have AB := Lib.hid (fun W => zzAbsAny d3 W)
          clear DE
          generalize absAny d3 = ad at *
          go_wp2_with (go_at_call 7; refine (AB.out _).mono ?_; rintro e w' ⟨rfl, rfl⟩)
          go_ret
          exact ⟨rfl, bb'⟩
end Go.Proofs.YtnkpcjmmingkkaaDoor.F64
