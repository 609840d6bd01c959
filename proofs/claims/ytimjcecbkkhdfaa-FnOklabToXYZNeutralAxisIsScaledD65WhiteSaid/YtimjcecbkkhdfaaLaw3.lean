/- FnOklabToXYZNeutralAxisIsScaledD65White returns true. -/
import Derived.Test.YtimjcecbkkhdfaaZz
import Derived.Test.YtimjcecbkkhdfaaNeutral
namespace Go.Proofs.Ytimjcecbkkhdfaa.F64
open Go.RowKit Go.Proofs.Ytimjcecbkkhdfaa.FL
def geM (x : Nat) : Bool := (FloatKind.f64.format.order x 18442240474082181119 == some .gt || FloatKind.f64.format.order x 18442240474082181119 == some .eq)
def leM (x : Nat) : Bool := (FloatKind.f64.format.order x 9218868437227405311 == some .lt || FloatKind.f64.format.order x 9218868437227405311 == some .eq)
theorem fin_of {x : Nat} (h1 : geM x = true) (h2 : leM x = true) : FL.Fin x :=
  fin_between (lo := 18442240474082181119) (hi := 9218868437227405311) (by unfold FL.Fin; decide) (by unfold FL.Fin; decide) h1 h2
theorem zzFinite (x : Nat) (w : World) : Calls Try.prog 5 #[.float .f64 x] w fun e w' => e = .returned (.bool (geM x && leM x)) ∧ w = w' := by
  by_cases h1 : geM x = true
  · have o1 : (FloatKind.f64.format.order x 18442240474082181119 == some .gt || FloatKind.f64.format.order x 18442240474082181119 == some .eq) = true := h1
    by_cases h2 : leM x = true
    · have o2 : (FloatKind.f64.format.order x 9218868437227405311 == some .lt || FloatKind.f64.format.order x 9218868437227405311 == some .eq) = true := h2
      rw [h1, h2]
      clear h1 h2
      go_enter Try.func5, Try.ntmps5
      go_wp2
      go_ret
      exact ⟨rfl, rfl⟩
    · have h2 : leM x = false := by simpa using h2
      have o2 : (FloatKind.f64.format.order x 9218868437227405311 == some .lt || FloatKind.f64.format.order x 9218868437227405311 == some .eq) = false := h2
      rw [h1, h2]
      clear h1 h2
      go_enter Try.func5, Try.ntmps5
      go_wp2
      go_ret
      exact ⟨rfl, rfl⟩
  · have h1 : geM x = false := by simpa using h1
    have o1 : (FloatKind.f64.format.order x 18442240474082181119 == some .gt || FloatKind.f64.format.order x 18442240474082181119 == some .eq) = false := h1
    rw [h1]
    clear h1
    go_enter Try.func5, Try.ntmps5
    go_wp2
    go_ret
    exact ⟨rfl, rfl⟩

structure NOK (l : Nat) : Prop where
  okk : OkOK l 0 0
  c0 : cubOK l
  t1 : F64.ok .mul 4532020583610935537 (absw (cub l))
  t2 : F64.ok .add (fo .mul 4532020583610935537 (absw (cub l))) 268231017195544690
  m0 : F64.ok .mul 4606736165463080392 (cub l)
  s0 : F64.ok .sub (q0 l 0 0) (fo .mul 4606736165463080392 (cub l))
  s1 : F64.ok .sub (q1 l 0 0) (cub l)
  m2 : F64.ok .mul 4607583499253154051 (cub l)
  s2 : F64.ok .sub (q2 l 0 0) (fo .mul 4607583499253154051 (cub l))
  fc : FL.Fin (cub l)
  x0 : FL.Fin (fo .sub (q0 l 0 0) (fo .mul 4606736165463080392 (cub l)))
  x1 : FL.Fin (fo .sub (q1 l 0 0) (cub l))
  x2 : FL.Fin (fo .sub (q2 l 0 0) (fo .mul 4607583499253154051 (cub l)))
  o0 : (FloatKind.f64.format.order (absw (fo .sub (q0 l 0 0) (fo .mul 4606736165463080392 (cub l)))) (tolN (cub l)) == some .lt || FloatKind.f64.format.order (absw (fo .sub (q0 l 0 0) (fo .mul 4606736165463080392 (cub l)))) (tolN (cub l)) == some .eq) = true
  o1 : (FloatKind.f64.format.order (absw (fo .sub (q1 l 0 0) (cub l))) (tolN (cub l)) == some .lt || FloatKind.f64.format.order (absw (fo .sub (q1 l 0 0) (cub l))) (tolN (cub l)) == some .eq) = true
  o2 : (FloatKind.f64.format.order (absw (fo .sub (q2 l 0 0) (fo .mul 4607583499253154051 (cub l)))) (tolN (cub l)) == some .lt || FloatKind.f64.format.order (absw (fo .sub (q2 l 0 0) (fo .mul 4607583499253154051 (cub l)))) (tolN (cub l)) == some .eq) = true

theorem neutral {l : Nat} (hl : FL.Fin l) (ha : rv (absw l) ≤ 2 * 10 ^ 100) : NOK l := by
  obtain ⟨a0, a1, a2, a3⟩ := absw_rv hl
  generalize rv (absw l) = T at *
  have n2 := Rat.mul_nonneg a0 a0
  have B2 := mul_abs (x := T) (d := T) (X := 2 * 10 ^ 100) (E := 2 * 10 ^ 100) (by grind) ha (by grind) ha
  have B3 := mul_abs (x := T * T) (d := T) (X := 2 * 10 ^ 100 * (2 * 10 ^ 100)) (E := 2 * 10 ^ 100) (by grind) B2.2 (by grind) ha
  have e3 : (2 * 10 ^ 100 * (2 * 10 ^ 100) * (2 * 10 ^ 100) : Rat) = 8 * 10 ^ 300 := by decide +kernel
  have hh := huge3
  have hbig : 100 * (T * T * T) + 1000 ≤ FL.p2 1023 := by rw [e3] at B3; grind
  clear B2 B3 e3 hh ha
  obtain ⟨k1, k2⟩ := le_cube a0
  have n3 := Rat.mul_nonneg n2 a0
  have he := eta_pos
  have v0 := v4607182418786060931
  have v1 := v4607182418840017303
  have v2 := v4607182419046240057
  obtain ⟨ra, fa, da, ea⟩ := pA (T := T) f4607182418786060931 f4600811406850492424 f4596943170085636112 hl (by grind) a1 (by rw [v0]; grind) (by rw [v0]; grind) (by grind)
  obtain ⟨rb, fb, db, eb⟩ := pA (T := T) f4607182418840017303 f13815642953869197506 f13812637635721267220 hl (by grind) a1 (by rw [v1]; grind) (by rw [v1]; grind) (by grind)
  obtain ⟨rc, fc, dc, ec⟩ := pA (T := T) f4607182419046240057 f13814484472384155798 f13831867189814501828 hl (by grind) a1 (by rw [v2]; grind) (by rw [v2]; grind) (by grind)
  have C0 := cubA (t := rv l) (T := T) fa (by grind) a1 da ea hbig
  have C1 := cubA (t := rv l) (T := T) fb (by grind) a1 db eb hbig
  have C2 := cubA (t := rv l) (T := T) fc (by grind) a1 dc ec hbig
  have CL := cubA (t := rv l) (T := T) hl (by grind) a1 (by grind) (by grind) hbig
  have hC : T * T * T = rv l * rv l * rv l ∨ T * T * T = -(rv l * rv l * rv l) := by rcases a3 with h | h <;> rw [h] <;> grind
  clear da ea db eb dc ec k1 k2 v0 v1 v2
  have s1 : -(T * T * T) ≤ rv l * rv l * rv l := by grind
  have s2 : rv l * rv l * rv l ≤ T * T * T := by grind
  generalize T * T * T = C at *
  generalize rv l * rv l * rv l = s at *
  have TO := tolA CL.2.1 s1 s2 hC CL.2.2.1 CL.2.2.2 hbig
  have X0 := rowB0 C0.2.1 C1.2.1 C2.2.1 CL.2.1 s1 s2 C0.2.2 C1.2.2 C2.2.2 CL.2.2 hbig
  have X1 := rowB1 C0.2.1 C1.2.1 C2.2.1 CL.2.1 s1 s2 C0.2.2 C1.2.2 C2.2.2 CL.2.2 hbig
  have X2 := rowB2 C0.2.1 C1.2.1 C2.2.1 CL.2.1 s1 s2 C0.2.2 C1.2.2 C2.2.2 CL.2.2 hbig
  have le : ∀ d, FL.Fin d → rv (absw d) ≤ C * (9 / 1000000) + 1000000 * eta → (FloatKind.f64.format.order (absw d) (tolN (cub l)) == some .lt || FloatKind.f64.format.order (absw d) (tolN (cub l)) == some .eq) = true :=
    fun d hd h => (le_iff (absw_fin hd) TO.2.2.1).trans (decide_eq_true (Rat.le_trans h TO.2.2.2))
  exact { okk := { a0 := ra, a1 := rb, a2 := rc, c0 := C0.1, c1 := C1.1, c2 := C2.1, b0 := X0.1, b1 := X1.1, b2 := X2.1 },
           c0 := CL.1, t1 := TO.1, t2 := TO.2.1, m0 := X0.2.1, s0 := X0.2.2.1, s1 := X1.2.1, m2 := X2.2.1, s2 := X2.2.2.1, fc := CL.2.1, x0 := X0.2.2.2.1, x1 := X1.2.2.1, x2 := X2.2.2.2.1,
           o0 := le _ X0.2.2.2.1 X0.2.2.2.2, o1 := le _ X1.2.2.1 X1.2.2.2, o2 := le _ X2.2.2.2.1 X2.2.2.2.2 }

attribute [local irreducible] q0 q1 q2 geM leM
set_option maxRecDepth 100000 in
set_option maxHeartbeats 2000000 in
theorem law3 (l : Nat) (w : World) (_ht : (Lit.float .f64 l).wf = true) : Calls Try.prog 3 #[.float .f64 l] w fun e w' => e = .returned (.bool true) ∧ Below w.heap.size w w' := by
  by_cases hb : (geM l && leM l) = true
  · have hl : FL.Fin l := fin_of (by simpa using (Bool.and_eq_true_iff.1 hb).1) (by simpa using (Bool.and_eq_true_iff.1 hb).2)
    have HF := Lib.hid hl
    by_cases hx : rv (absw l) ≤ rv 6103021453049119613
    · have o1 : (FloatKind.f64.format.order (absw l) 6103021453049119613 == some .gt) = false := (gt_iff (absw_fin hl) f6103021453049119613).trans (decide_eq_false (by grind))
      have HN := Lib.hid (neutral hl (Rat.le_trans hx v1e100))
      clear hl hx
      go_enter Try.func3, Try.ntmps3
      go_wp2_with fail
      refine (zzFinite l _).mono ?_
      rintro e w1 ⟨rfl, rfl⟩
      rw [hb]
      go_wp2_with fail
      refine (zzAbs l _ HF.out).mono ?_
      rintro e w1 ⟨rfl, rfl⟩
      go_wp2_with fail
      refine (zzOklab l 0 0 _ HN.out.okk).mono ?_
      rintro e w2 ⟨rfl, hb2⟩
      have r1 := fun (ty : TypeId) (w : World) => run_float_arith (P := Try.prog) w .mul ty .f64 l l _ (fo_some HN.out.c0.1)
      have r2 := fun (ty : TypeId) (w : World) => run_float_arith (P := Try.prog) w .mul ty .f64 (fo .mul l l) l (cub l) (fo_some HN.out.c0.2)
      go_wp2_with fail
      clear r1 r2
      refine (zzAbs (cub l) _ HN.out.fc).mono ?_
      rintro e w3 ⟨rfl, rfl⟩
      have r1 := fun (ty : TypeId) (w : World) => run_float_arith (P := Try.prog) w .mul ty .f64 4532020583610935537 (absw (cub l)) _ (fo_some HN.out.t1)
      have r2 := fun (ty : TypeId) (w : World) => run_float_arith (P := Try.prog) w .add ty .f64 (fo .mul 4532020583610935537 (absw (cub l))) 268231017195544690 (tolN (cub l)) (fo_some HN.out.t2)
      have r3 := fun (ty : TypeId) (w : World) => run_float_arith (P := Try.prog) w .mul ty .f64 4606736165463080392 (cub l) _ (fo_some HN.out.m0)
      have r4 := fun (ty : TypeId) (w : World) => run_float_arith (P := Try.prog) w .sub ty .f64 (q0 l 0 0) _ _ (fo_some HN.out.s0)
      go_wp2_with fail
      clear r1 r2 r3 r4
      refine (zzAbs _ _ HN.out.x0).mono ?_
      rintro e w3 ⟨rfl, rfl⟩
      have r5 := HN.out.o0
      have r6 := fun (ty : TypeId) (w : World) => run_float_arith (P := Try.prog) w .sub ty .f64 (q1 l 0 0) _ _ (fo_some HN.out.s1)
      go_wp2_with fail
      refine (zzAbs _ _ HN.out.x1).mono ?_
      rintro e w3 ⟨rfl, rfl⟩
      clear r5 r6
      have r5 := HN.out.o1
      have r6 := fun (ty : TypeId) (w : World) => run_float_arith (P := Try.prog) w .mul ty .f64 4607583499253154051 (cub l) _ (fo_some HN.out.m2)
      have r7 := fun (ty : TypeId) (w : World) => run_float_arith (P := Try.prog) w .sub ty .f64 (q2 l 0 0) _ _ (fo_some HN.out.s2)
      go_wp2_with fail
      refine (zzAbs _ _ HN.out.x2).mono ?_
      rintro e w3 ⟨rfl, rfl⟩
      clear r5 r6 r7
      have r5 := HN.out.o2
      go_wp2_with fail
      go_ret
      exact ⟨rfl, hb2⟩
    · have o1 : (FloatKind.f64.format.order (absw l) 6103021453049119613 == some .gt) = true := (gt_iff (absw_fin hl) f6103021453049119613).trans (decide_eq_true (by grind))
      clear hl hx
      go_enter Try.func3, Try.ntmps3
      go_wp2_with fail
      refine (zzFinite l _).mono ?_
      rintro e w1 ⟨rfl, rfl⟩
      rw [hb]
      go_wp2_with fail
      refine (zzAbs l _ HF.out).mono ?_
      rintro e w1 ⟨rfl, rfl⟩
      go_wp2_with fail
      go_ret
      exact ⟨rfl, Below.refl _ _⟩
  · have hb : (geM l && leM l) = false := by simpa using hb
    go_enter Try.func3, Try.ntmps3
    go_wp2_with fail
    refine (zzFinite l _).mono ?_
    rintro e w1 ⟨rfl, rfl⟩
    rw [hb]
    go_wp2_with fail
    go_ret
    exact ⟨rfl, Below.refl _ _⟩
end Go.Proofs.Ytimjcecbkkhdfaa.F64
