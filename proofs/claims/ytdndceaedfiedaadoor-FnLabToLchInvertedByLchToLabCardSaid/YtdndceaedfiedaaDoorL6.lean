/- FnLabToLchInvertedByLchToLab: the law, walked. -/
import Derived.Test.YtdndceaedfiedaaDoorLw
import Derived.Test.YtdndceaedfiedaaDoorLl
namespace Go.Proofs.YtdndceaedfiedaaDoor.F64
open Go Go.RowKit Go.Lib Go.Proofs.YtdndceaedfiedaaDoor.FL
set_option linter.unusedVariables false
def absAny (x : Nat) : Nat := if (Ieee.double.order x 0 == some .lt) = true then Op.negFloat .f64 x else x
theorem zzAbsAny (x : Nat) (w : World) : Calls Tryd.prog 12 #[.float .f64 x] w fun e w' => e = .returned (.float .f64 (absAny x)) ∧ w = w' := by
  cases hn : (Ieee.double.order x 0 == some .lt)
  · have o1 : (FloatKind.f64.format.order x 0 == some .lt) = false := hn
    have HA := Lib.hid (show absAny x = x by unfold absAny; rw [if_neg (by rw [hn]; simp)])
    clear hn
    go_enter Tryd.func12, Tryd.ntmps12
    go_wp2
    go_ret
    exact ⟨by rw [HA.out]; rfl, rfl⟩
  · have o1 : (FloatKind.f64.format.order x 0 == some .lt) = true := hn
    have HA := Lib.hid (show absAny x = Op.negFloat .f64 x by unfold absAny; rw [if_pos hn])
    clear hn
    go_enter Tryd.func12, Tryd.ntmps12
    go_wp2
    go_ret
    exact ⟨by rw [HA.out]; rfl, rfl⟩
def geB (x y : Nat) : Bool := (FloatKind.f64.format.order x y == some .gt || FloatKind.f64.format.order x y == some .eq)
def leB (x y : Nat) : Bool := (FloatKind.f64.format.order x y == some .lt || FloatKind.f64.format.order x y == some .eq)
theorem zzIn (x lo hi : Nat) (w : World) : Calls Tryd.prog 4 #[.float .f64 x, .float .f64 lo, .float .f64 hi] w fun e w' => e = .returned (.bool (geB x lo && leB x hi)) ∧ w = w' := by
  cases hn : geB x lo
  · have o1 : (FloatKind.f64.format.order x lo == some .gt || FloatKind.f64.format.order x lo == some .eq) = false := hn
    clear hn
    go_enter Tryd.func4, Tryd.ntmps4
    go_wp2
    go_ret
    exact ⟨rfl, rfl⟩
  · have o1 : (FloatKind.f64.format.order x lo == some .gt || FloatKind.f64.format.order x lo == some .eq) = true := hn
    have HA := Lib.hid (show (true && leB x hi) = (FloatKind.f64.format.order x hi == some .lt || FloatKind.f64.format.order x hi == some .eq) by rw [Bool.true_and]; rfl)
    clear hn
    go_enter Tryd.func4, Tryd.ntmps4
    go_wp2
    go_ret
    exact ⟨by rw [HA.out]; rfl, rfl⟩
theorem zzNear (x y t d : Nat) (hd : floatBits .sub .f64 x y = some d) (h : leB (absAny d) t = true) (w : World) : Calls Tryd.prog 7 #[.float .f64 x, .float .f64 y, .float .f64 t] w fun e w' => e = .returned (.bool true) ∧ w = w' := by
  have M := fun (t : TypeId) (w : World) => run_float_arith (P := Tryd.prog) w .sub t .f64 _ _ _ hd
  have A := Lib.hid (fun W => zzAbsAny d W)
  have o1 : (FloatKind.f64.format.order (absAny d) t == some .lt || FloatKind.f64.format.order (absAny d) t == some .eq) = true := h
  generalize absAny d = ad at *
  clear hd h
  go_enter Tryd.func7, Tryd.ntmps7
  go_wp2_with (go_at_call 12; refine (A.out _).mono ?_; rintro e w' ⟨rfl, rfl⟩)
  go_ret
  exact ⟨by simp, rfl⟩
set_option maxRecDepth 100000 in
set_option maxHeartbeats 1000000 in
theorem zzL (x y z p q : Nat) (w : World)
    (HP : ∀ W, Calls Tryd.prog 8 #[.agg #[.float .f64 x], .agg #[.float .f64 y], .agg #[.float .f64 z]] W
      fun e w' => e = .returned (.tuple #[.agg #[.float .f64 x], .agg #[.float .f64 p], .agg #[.float .f64 q]]) ∧ Below W.heap.size W w') :
    Calls Tryd.prog 5 #[.float .f64 x, .float .f64 y, .float .f64 z] w
      fun e w' => e = .returned (.tuple #[.float .f64 x, .float .f64 p, .float .f64 q]) ∧ Below w.heap.size w w' := by
  have H := Lib.hid HP
  clear HP
  go_enter Tryd.func5, Tryd.ntmps5
  go_wp2_with fail
  refine (newF64 x _).mono ?_
  rintro e w1 ⟨rfl, hb1⟩
  go_wp2_with fail
  refine (newF64 y _).mono ?_
  rintro e w2 ⟨rfl, hb2⟩
  go_wp2_with fail
  refine (newF64 z _).mono ?_
  rintro e w3 ⟨rfl, hb3⟩
  go_wp2_with fail
  refine (H.out _).mono ?_
  rintro e w4 ⟨rfl, hb4⟩
  have hB : Below w.heap.size w w4 := ((hb1.trans (hb2.mono hb1.size)).trans (hb3.mono (Nat.le_trans hb1.size hb2.size))).trans (hb4.mono (Nat.le_trans (Nat.le_trans hb1.size hb2.size) hb3.size))
  clear hb1 hb2 hb3 hb4
  have hsz := hB.size
  go_wp2_with fail
  have STEP := Lib.hid (fun w1 w2 (h : ZInv w w4 x p q w1) (hb : Below w1.heap.size w1 w2) => h.step hb)
  have START := Lib.hid (ZInv.start w w4 x p q 27 hB)
  go_region_held3 (fun w' => Below w.heap.size w w' ∧ w'.cell? ⟨w4.heap.size, 0, none⟩ = some (.float .f64 x) ∧ w'.cell? ⟨w4.heap.size + 1, 0, none⟩ = some (.float .f64 p) ∧ w'.cell? ⟨w4.heap.size + 1 + 1, 0, none⟩ = some (.float .f64 q) ∧ w4.heap.size + 1 + 1 < w'.heap.size)
    (first | assumption | exact START.out)
    (first | (go_at_call 10; refine (value _ _).mono ?_; rintro e w1 ⟨rfl, hb⟩; have hI := STEP.out _ _ (by assumption) hb; unfold ZInv at hI; clear hb))
  go_wp2
  go_ret3
  exact ⟨rfl, And.left (show ZInv w w4 x p q _ by assumption)⟩
theorem fLO : FL.Fin 13920209183539462144 := by unfold FL.Fin; decide
theorem fHI : FL.Fin 4696837146684686336 := by unfold FL.Fin; decide
theorem vLO : rv 13920209183539462144 = -1000000 := by decide +kernel
theorem vHI : rv 4696837146684686336 = 1000000 := by decide +kernel
theorem in_box {h : Nat} (hi : (geB h 13920209183539462144 && leB h 4696837146684686336) = true) : FL.Fin h ∧ -1000000 ≤ rv h ∧ rv h ≤ 1000000 := by
  rw [Bool.and_eq_true] at hi
  have f : FL.Fin h := fin_between fLO fHI hi.1 hi.2
  have a := (ge_iff f fLO).symm.trans hi.1
  have b := (le_iff f fHI).symm.trans hi.2
  rw [decide_eq_true_iff, vLO] at a
  rw [decide_eq_true_iff, vHI] at b
  exact ⟨f, a, b⟩
theorem fT9 : FL.Fin 4472406533629990549 := by unfold FL.Fin; decide
theorem vT9 : 9999999 / 10000000000000000 ≤ rv 4472406533629990549 ∧ rv 4472406533629990549 ≤ 10000001 / 10000000000000000 := by decide +kernel
/-- The tolerance's word. -/
theorem tolW (cc : Nat) (f : FL.Fin cc) (c0 : 0 ≤ rv cc) (c1 : rv cc ≤ 10000000) : ∃ s t, floatBits .add .f64 4607182418800017408 cc = some s ∧ floatBits .mul .f64 4472406533629990549 s = some t ∧ FL.Fin t ∧ (1 + rv cc) * (99 / 100000000000) ≤ rv t := by
  have el := eta_le
  have big := big_le
  have v := vT9
  obtain ⟨s, hs, rs, -⟩ := add_rnd fOne f (by rw [vOne]; grind) (by rw [vOne]; grind)
  rw [vOne] at rs
  have xs := rs.err (1 + rv cc) (by grind) (by grind)
  rw [u53_eq] at xs
  have m := mul_abs (x := rv 4472406533629990549) (d := rv s) (X := 1) (E := 20000000) (by grind) (by grind) (by grind) (by grind)
  obtain ⟨t, ht, rt, -, -⟩ := mul_rnd fT9 rs.fin (by grind) (by grind)
  have k := Rat.mul_nonneg (show 0 ≤ rv 4472406533629990549 - 9999999 / 10000000000000000 by grind) (show 0 ≤ rv s by grind)
  have k2 := Rat.mul_nonneg (show 0 ≤ 10000001 / 10000000000000000 - rv 4472406533629990549 by grind) (show 0 ≤ rv s by grind)
  have xt := rt.err (rv s * (10000001 / 10000000000000000)) (by grind) (by grind)
  rw [u53_eq] at xt
  exact ⟨s, t, hs, ht, rt.fin, by grind⟩
theorem nearW {p a cc t : Nat} (fp : FL.Fin p) (fa : FL.Fin a) (ft : FL.Fin t) (a1 : -1000000 ≤ rv a) (a2 : rv a ≤ 1000000) (c0 : 0 ≤ rv cc) (c1 : rv cc ≤ 10000000) (h : Nq9 (rv p) (rv a) (rv cc)) (ht : (1 + rv cc) * (99 / 100000000000) ≤ rv t) : ∃ d, floatBits .sub .f64 p a = some d ∧ leB (absAny d) t = true := by
  have el := eta_le
  have big := big_le
  obtain ⟨h1, h2⟩ := h
  obtain ⟨d, hd, rd, -⟩ := sub_rnd fp fa (by grind) (by grind)
  have x := rd.err (rv cc * (8 / 10000000000) + 1 / 100000000000000000000) (by grind) (by grind)
  rw [u53_eq] at x
  refine ⟨d, hd, ?_⟩
  have key : FL.Fin (absAny d) ∧ (rv (absAny d) = rv d ∨ rv (absAny d) = -rv d) := by
    by_cases hn : (Ieee.double.order d 0 == some .lt) = true
    · have e : absAny d = d ^^^ 2 ^ 63 := by unfold absAny; rw [if_pos hn]; rfl
      rw [e]
      exact ⟨neg_fin rd.fin, .inr (neg_rv rd.fin)⟩
    · have e : absAny d = d := by unfold absAny; rw [if_neg hn]
      rw [e]
      exact ⟨rd.fin, .inl rfl⟩
  show (Ieee.double.order (absAny d) t == some .lt || Ieee.double.order (absAny d) t == some .eq) = true
  rw [le_iff key.1 ft, decide_eq_true_iff]
  rcases key.2 with e | e <;> rw [e] <;> grind
set_option maxRecDepth 100000 in
set_option maxHeartbeats 4000000 in
theorem law (l a b : Nat) (w : World) (_hl : (Lit.float .f64 l).wf = true) (ha : (Lit.float .f64 a).wf = true) (hb : (Lit.float .f64 b).wf = true) (hT : SC w) : Calls Tryd.prog 3 #[.float .f64 l, .float .f64 a, .float .f64 b] w fun e w' => e = .returned (.bool true) ∧ Below w.heap.size w w' := by
  have la : a < 2 ^ 64 := by simpa [Lit.wf] using ha
  have lb : b < 2 ^ 64 := by simpa [Lit.wf] using hb
  have IL := Lib.hid (fun W => zzIn l 13920209183539462144 4696837146684686336 W)
  have IA := Lib.hid (fun W => zzIn a 13920209183539462144 4696837146684686336 W)
  have IB := Lib.hid (fun W => zzIn b 13920209183539462144 4696837146684686336 W)
  clear ha hb
  cases hil : (geB l 13920209183539462144 && leB l 4696837146684686336)
  case false =>
    rw [hil] at IL
    clear hil hT la lb IA IB
    go_enter Tryd.func3, Tryd.ntmps3
    go_wp2_with (go_at_call 4; refine (IL.out _).mono ?_; rintro e w' ⟨rfl, rfl⟩)
    go_ret
    exact ⟨rfl, Below.refl _ _⟩
  case true =>
  cases hia : (geB a 13920209183539462144 && leB a 4696837146684686336)
  case false =>
    rw [hil] at IL
    rw [hia] at IA
    clear hil hia hT la lb IB
    go_enter Tryd.func3, Tryd.ntmps3
    go_wp2_with (go_at_call 4; (first | (with_reducible refine (IL.out _).mono ?_) | (with_reducible refine (IA.out _).mono ?_)); rintro e w' ⟨rfl, rfl⟩)
    go_ret
    exact ⟨rfl, Below.refl _ _⟩
  case true =>
  cases hib : (geB b 13920209183539462144 && leB b 4696837146684686336)
  case false =>
    rw [hil] at IL
    rw [hia] at IA
    rw [hib] at IB
    clear hil hia hib hT la lb
    go_enter Tryd.func3, Tryd.ntmps3
    go_wp2_with (go_at_call 4; (first | (with_reducible refine (IL.out _).mono ?_) | (with_reducible refine (IA.out _).mono ?_) | (with_reducible refine (IB.out _).mono ?_)); rintro e w' ⟨rfl, rfl⟩)
    go_ret
    exact ⟨rfl, Below.refl _ _⟩
  case true =>
  obtain ⟨fl, -, -⟩ := in_box hil
  obtain ⟨fa, a1, a2⟩ := in_box hia
  obtain ⟨fb, b1, b2⟩ := in_box hib
  rw [hil] at IL
  rw [hia] at IA
  rw [hib] at IB
  obtain ⟨ft, tu⟩ := a2_turn b a fb fa
  obtain ⟨aa, bb, ss, cc, C, c2⟩ := chro a b fa fb 1000000 (by unfold p2; decide +kernel) a1 a2 b1 b2
  obtain ⟨h0, hh, r, HW⟩ := hueW b a (a2V b a) ft tu
  have c0 := C.rad.c0
  have c1 : rv cc ≤ 10000000 := PL.small_of_sq (by decide +kernel) (by grind)
  obtain ⟨Y, z, c, s, ci, HC, HS⟩ := sincos r HW.lr HW.fr HW.r1 HW.r2
  obtain ⟨p, q, hp, hq, fp, fq, np, nq⟩ := back HW C.rad C.fin c1 ci
  obtain ⟨s1, t, hs1, ht, fT, vt⟩ := tolW cc C.fin c0 c1
  obtain ⟨d1, hd1, o1⟩ := nearW fp fa fT a1 a2 c0 c1 np vt
  obtain ⟨d2, hd2, o2⟩ := nearW fq fb fT b1 b2 c0 c1 nq vt
  obtain rfl := fop_some hp
  obtain rfl := fop_some hq
  have ZL := Lib.hid (fun W => zzL l a b cc hh W (fun W => lab l a b h0 hh aa bb ss cc (a2V b a) W (fun W => mAtan2 b a lb la fb fa W) HW.h1 HW.h2 C.h1 C.h2 C.h3 C.h4))
  have ZB := Lib.hid (fun W (hW : Below w.heap.size w W) => zz l cc hh _ _ W (hT.below hW (Nat.le_refl _)) (fun W' hW' => polar l cc hh r c s W' hW' HW.h3 HC HS hp hq))
  have IH := Lib.hid (fun W => zzIn hh 0 4645040803167600640 W)
  have gh : (geB hh 0 && leB hh 4645040803167600640) = true := by
    rw [Bool.and_eq_true]
    have x1 : geB hh 0 = decide (0 ≤ rv hh) := ge_order HW.fh
    have x2 : leB hh 4645040803167600640 = decide (rv hh ≤ 360) := by
      show (Ieee.double.order hh 4645040803167600640 == some .lt || Ieee.double.order hh 4645040803167600640 == some .eq) = _
      rw [le_iff HW.fh f360, v360]
    exact ⟨x1.trans (decide_eq_true HW.b1), x2.trans (decide_eq_true HW.b2)⟩
  rw [gh] at IH
  have g0 : (FloatKind.f64.format.order cc 0 == some .gt || FloatKind.f64.format.order cc 0 == some .eq) = true := (ge_order C.fin).trans (decide_eq_true c0)
  have n0 := ord_nan fl
  have e0 : (FloatKind.f64.format.order l l == some .eq) = true := by
    show (Ieee.double.order l l == some .eq) = true
    rw [eq_iff fl fl]; exact decide_eq_true rfl
  have M1 := fun (t : TypeId) (w : World) => run_float_arith (P := Tryd.prog) w .add t .f64 _ _ _ hs1
  have M2 := fun (t : TypeId) (w : World) => run_float_arith (P := Tryd.prog) w .mul t .f64 _ _ _ ht
  have N1 := Lib.hid (fun W => zzNear _ a t d1 hd1 o1 W)
  have N2 := Lib.hid (fun W => zzNear _ b t d2 hd2 o2 W)
  clear hil hia hib fl fa fb a1 a2 b1 b2 ft tu C c2 HW c0 c1 ci HC HS np nq fp fq hs1 ht fT vt hd1 o1 hd2 o2 gh la lb
  generalize fop .mul c cc = p at *
  generalize fop .mul s cc = q at *
  clear hp hq hT
  have bb' : Below w.heap.size w w := Below.refl _ _
  go_enter Tryd.func3, Tryd.ntmps3
  go_wp2_with (first
    | (go_at_call 4; (first | (with_reducible refine (IL.out _).mono ?_) | (with_reducible refine (IA.out _).mono ?_) | (with_reducible refine (IB.out _).mono ?_) | (with_reducible refine (IH.out _).mono ?_)); rintro e w' ⟨rfl, rfl⟩)
    | (go_at_call 5; refine (ZL.out _).mono ?_; rintro e w1 ⟨rfl, bn⟩; have bb' := bb'.trans (bn.mono bb'.size); clear bn)
    | (go_at_call 6; refine (ZB.out _ (by assumption)).mono ?_; rintro e w2 ⟨rfl, bn⟩; have bb' := bb'.trans (bn.mono bb'.size); clear bn)
    | (go_at_call 7; (first | (with_reducible refine (N1.out _).mono ?_) | (with_reducible refine (N2.out _).mono ?_)); rintro e w' ⟨rfl, rfl⟩))
  go_ret
  exact ⟨rfl, by assumption⟩
end Go.Proofs.YtdndceaedfiedaaDoor.F64
