/- The law FnOklabToXYZUndoesXyzToOklab returns true. Written by gen_cblaw.py. -/
import Derived.Test.YtekideiinifffaaCbs
namespace Go.Proofs.Ytekideiinifffaa.F64
open Go Go.RowKit Go.Proofs.Ytekideiinifffaa.FL
set_option linter.unusedVariables false
attribute [local irreducible] q0 q1 q2 v0 v1 v2 u0 u1 u2 geB leB absw
set_option maxRecDepth 100000 in
set_option maxHeartbeats 4000000 in
theorem law4Main (x y z : Nat) (b1 b2 : Bool) (M a b c : Nat) (w : World) (hx : FL.Fin x) (hy : FL.Fin y) (hz : FL.Fin z) (h : All x y z b1 b2 M a b c)
    (i1 : (geB x 18442240474082181119 && leB x 9218868437227405311) = true) (i2 : (geB y 18442240474082181119 && leB y 9218868437227405311) = true) (i3 : (geB z 18442240474082181119 && leB z 9218868437227405311) = true)
    (j1 : (FloatKind.f64.format.order (absw x) 4652007308841189376 == some .gt) = false) (j2 : (FloatKind.f64.format.order (absw y) 4652007308841189376 == some .gt) = false) (j3 : (FloatKind.f64.format.order (absw z) 4652007308841189376 == some .gt) = false) :
    Calls Try.prog 4 #[.float .f64 x, .float .f64 y, .float .f64 z] w fun e w' => e = .returned (.bool true) ∧ Below w.heap.size w w' := by
  have HE := Lib.hid (end_b hx hy hz h)
  have g1 := h.g1
  have g2 := h.g2
  have hM := h.hM
  have HB := Lib.hid h.back
  have AX := Lib.hid (fun w => zzAbs11 x w hx)
  have AY := Lib.hid (fun w => zzAbs11 y w hy)
  have AZ := Lib.hid (fun w => zzAbs11 z w hz)
  clear h hx hy hz
  have F1 := Lib.hid (fun w => (show Calls Try.prog 10 #[.float .f64 x] w fun e w' => e = .returned (.bool true) ∧ w = w' by have := zzFin x w; rw [i1] at this; exact this))
  have F2 := Lib.hid (fun w => (show Calls Try.prog 10 #[.float .f64 y] w fun e w' => e = .returned (.bool true) ∧ w = w' by have := zzFin y w; rw [i2] at this; exact this))
  have F3 := Lib.hid (fun w => (show Calls Try.prog 10 #[.float .f64 z] w fun e w' => e = .returned (.bool true) ∧ w = w' by have := zzFin z w; rw [i3] at this; exact this))
  clear i1 i2 i3
  go_enter Try.func4, Try.ntmps4
  go_wp2_with fail
  refine (F1.out _).mono ?_
  rintro e w1 ⟨rfl, rfl⟩
  go_wp2_with fail
  refine (F2.out _).mono ?_
  rintro e w1 ⟨rfl, rfl⟩
  go_wp2_with fail
  refine (F3.out _).mono ?_
  rintro e w1 ⟨rfl, rfl⟩
  go_wp2_with fail
  refine (AX.out _).mono ?_
  rintro e w1 ⟨rfl, rfl⟩
  go_wp2_with fail
  refine (AY.out _).mono ?_
  rintro e w1 ⟨rfl, rfl⟩
  go_wp2_with fail
  refine (AZ.out _).mono ?_
  rintro e w1 ⟨rfl, rfl⟩
  go_wp2_with fail
  refine (zzTo12 x y z a b c _ HB.out.xi HB.out.xo HB.out.ca HB.out.cb HB.out.cc).mono ?_
  rintro e w2 ⟨rfl, hb2⟩
  clear j1 j2 j3
  go_wp2_with fail
  refine (zzOk13 (v0 a b c) (v1 a b c) (v2 a b c) _ HB.out.ok).mono ?_
  rintro e w3 ⟨rfl, hb3⟩
  have hB := hb2.trans (hb3.mono hb2.size)
  clear hb2 hb3 HB
  go_wp2_with fail
  refine (AX.out _).mono ?_
  rintro e w4 ⟨rfl, rfl⟩
  go_wp2_with fail
  refine (AY.out _).mono ?_
  rintro e w4 ⟨rfl, rfl⟩
  have key : ∀ m, (FloatKind.f64.format.order (absw z) m == some .gt) = b2 → M = mxw m (absw z) b2 → True := fun _ _ _ => trivial
  clear key
  cases b1 <;> cases b2 <;> simp only [mxw, Bool.false_eq_true, if_false, if_true] at g2 hM
  · have hM2 := hM
    clear hM
    go_wp2_with fail
    refine (AZ.out _).mono ?_
    rintro e w4 ⟨rfl, rfl⟩
    subst hM2
    have t1 := fun (ty : TypeId) (w : World) => run_float_arith (P := Try.prog) w .mul ty .f64 _ _ _ (fo_some HE.out.t1)
    have t2 := fun (ty : TypeId) (w : World) => run_float_arith (P := Try.prog) w .add ty .f64 _ _ (tolB (absw x)) (fo_some HE.out.t2)
    have s0 := fun (ty : TypeId) (w : World) => run_float_arith (P := Try.prog) w .sub ty .f64 _ _ _ (fo_some HE.out.n0.ok)
    go_wp2_with fail
    refine (zzAbs11 _ _ HE.out.n0.fin).mono ?_
    rintro e w4 ⟨rfl, rfl⟩
    have l0 := HE.out.n0.le
    have s1 := fun (ty : TypeId) (w : World) => run_float_arith (P := Try.prog) w .sub ty .f64 _ _ _ (fo_some HE.out.n1.ok)
    go_wp2_with fail
    refine (zzAbs11 _ _ HE.out.n1.fin).mono ?_
    rintro e w4 ⟨rfl, rfl⟩
    have l1 := HE.out.n1.le
    have s2 := fun (ty : TypeId) (w : World) => run_float_arith (P := Try.prog) w .sub ty .f64 _ _ _ (fo_some HE.out.n2.ok)
    go_wp2_with fail
    refine (zzAbs11 _ _ HE.out.n2.fin).mono ?_
    rintro e w4 ⟨rfl, rfl⟩
    have l2 := HE.out.n2.le
    go_wp2_with fail
    go_ret
    exact ⟨rfl, hB⟩
  · have hM2 := hM
    clear hM
    go_wp2_with fail
    refine (AZ.out _).mono ?_
    rintro e w4 ⟨rfl, rfl⟩
    subst hM2
    have t1 := fun (ty : TypeId) (w : World) => run_float_arith (P := Try.prog) w .mul ty .f64 _ _ _ (fo_some HE.out.t1)
    have t2 := fun (ty : TypeId) (w : World) => run_float_arith (P := Try.prog) w .add ty .f64 _ _ (tolB (absw z)) (fo_some HE.out.t2)
    have s0 := fun (ty : TypeId) (w : World) => run_float_arith (P := Try.prog) w .sub ty .f64 _ _ _ (fo_some HE.out.n0.ok)
    go_wp2_with fail
    refine (AZ.out _).mono ?_
    rintro e w4 ⟨rfl, rfl⟩
    go_wp2_with fail
    refine (zzAbs11 _ _ HE.out.n0.fin).mono ?_
    rintro e w4 ⟨rfl, rfl⟩
    have l0 := HE.out.n0.le
    have s1 := fun (ty : TypeId) (w : World) => run_float_arith (P := Try.prog) w .sub ty .f64 _ _ _ (fo_some HE.out.n1.ok)
    go_wp2_with fail
    refine (zzAbs11 _ _ HE.out.n1.fin).mono ?_
    rintro e w4 ⟨rfl, rfl⟩
    have l1 := HE.out.n1.le
    have s2 := fun (ty : TypeId) (w : World) => run_float_arith (P := Try.prog) w .sub ty .f64 _ _ _ (fo_some HE.out.n2.ok)
    go_wp2_with fail
    refine (zzAbs11 _ _ HE.out.n2.fin).mono ?_
    rintro e w4 ⟨rfl, rfl⟩
    have l2 := HE.out.n2.le
    go_wp2_with fail
    go_ret
    exact ⟨rfl, hB⟩
  · have hM2 := hM
    clear hM
    go_wp2_with fail
    refine (AY.out _).mono ?_
    rintro e w4 ⟨rfl, rfl⟩
    go_wp2_with fail
    refine (AZ.out _).mono ?_
    rintro e w4 ⟨rfl, rfl⟩
    subst hM2
    have t1 := fun (ty : TypeId) (w : World) => run_float_arith (P := Try.prog) w .mul ty .f64 _ _ _ (fo_some HE.out.t1)
    have t2 := fun (ty : TypeId) (w : World) => run_float_arith (P := Try.prog) w .add ty .f64 _ _ (tolB (absw y)) (fo_some HE.out.t2)
    have s0 := fun (ty : TypeId) (w : World) => run_float_arith (P := Try.prog) w .sub ty .f64 _ _ _ (fo_some HE.out.n0.ok)
    go_wp2_with fail
    refine (zzAbs11 _ _ HE.out.n0.fin).mono ?_
    rintro e w4 ⟨rfl, rfl⟩
    have l0 := HE.out.n0.le
    have s1 := fun (ty : TypeId) (w : World) => run_float_arith (P := Try.prog) w .sub ty .f64 _ _ _ (fo_some HE.out.n1.ok)
    go_wp2_with fail
    refine (zzAbs11 _ _ HE.out.n1.fin).mono ?_
    rintro e w4 ⟨rfl, rfl⟩
    have l1 := HE.out.n1.le
    have s2 := fun (ty : TypeId) (w : World) => run_float_arith (P := Try.prog) w .sub ty .f64 _ _ _ (fo_some HE.out.n2.ok)
    go_wp2_with fail
    refine (zzAbs11 _ _ HE.out.n2.fin).mono ?_
    rintro e w4 ⟨rfl, rfl⟩
    have l2 := HE.out.n2.le
    go_wp2_with fail
    go_ret
    exact ⟨rfl, hB⟩
  · have hM2 := hM
    clear hM
    go_wp2_with fail
    refine (AY.out _).mono ?_
    rintro e w4 ⟨rfl, rfl⟩
    go_wp2_with fail
    refine (AZ.out _).mono ?_
    rintro e w4 ⟨rfl, rfl⟩
    subst hM2
    have t1 := fun (ty : TypeId) (w : World) => run_float_arith (P := Try.prog) w .mul ty .f64 _ _ _ (fo_some HE.out.t1)
    have t2 := fun (ty : TypeId) (w : World) => run_float_arith (P := Try.prog) w .add ty .f64 _ _ (tolB (absw z)) (fo_some HE.out.t2)
    have s0 := fun (ty : TypeId) (w : World) => run_float_arith (P := Try.prog) w .sub ty .f64 _ _ _ (fo_some HE.out.n0.ok)
    go_wp2_with fail
    refine (AZ.out _).mono ?_
    rintro e w4 ⟨rfl, rfl⟩
    go_wp2_with fail
    refine (zzAbs11 _ _ HE.out.n0.fin).mono ?_
    rintro e w4 ⟨rfl, rfl⟩
    have l0 := HE.out.n0.le
    have s1 := fun (ty : TypeId) (w : World) => run_float_arith (P := Try.prog) w .sub ty .f64 _ _ _ (fo_some HE.out.n1.ok)
    go_wp2_with fail
    refine (zzAbs11 _ _ HE.out.n1.fin).mono ?_
    rintro e w4 ⟨rfl, rfl⟩
    have l1 := HE.out.n1.le
    have s2 := fun (ty : TypeId) (w : World) => run_float_arith (P := Try.prog) w .sub ty .f64 _ _ _ (fo_some HE.out.n2.ok)
    go_wp2_with fail
    refine (zzAbs11 _ _ HE.out.n2.fin).mono ?_
    rintro e w4 ⟨rfl, rfl⟩
    have l2 := HE.out.n2.le
    go_wp2_with fail
    go_ret
    exact ⟨rfl, hB⟩
theorem fin_of {x : Nat} (h : (geB x 18442240474082181119 && leB x 9218868437227405311) = true) : FL.Fin x := by
  have a := (Bool.and_eq_true_iff.1 h).1
  have b := (Bool.and_eq_true_iff.1 h).2
  unfold geB at a
  unfold leB at b
  exact fin_between (lo := 18442240474082181119) (hi := 9218868437227405311) (by unfold FL.Fin; decide) (by unfold FL.Fin; decide) a b
theorem abs_of {x : Nat} (hf : FL.Fin x) (h : (FloatKind.f64.format.order (absw x) 4652007308841189376 == some .gt) = false) : rv (absw x) ≤ 1000 := by
  have g : (FloatKind.f64.format.order (absw x) 4652007308841189376 == some .gt) = decide (rv 4652007308841189376 < rv (absw x)) := gt_iff (absw_fin hf) f1000
  rw [g, w1000] at h
  exact Rat.not_lt.1 (of_decide_eq_false h)
theorem law4 (x y z : Nat) (w : World) (_t1 : (Lit.float .f64 x).wf = true) (_t2 : (Lit.float .f64 y).wf = true) (_t3 : (Lit.float .f64 z).wf = true) : Calls Try.prog 4 #[.float .f64 x, .float .f64 y, .float .f64 z] w fun e w' => e = .returned (.bool true) ∧ Below w.heap.size w w' := by
  have F1 := Lib.hid (fun w => zzFin x w)
  have F2 := Lib.hid (fun w => zzFin y w)
  have F3 := Lib.hid (fun w => zzFin z w)
  by_cases h1 : (geB x 18442240474082181119 && leB x 9218868437227405311) = true
  · by_cases h2 : (geB y 18442240474082181119 && leB y 9218868437227405311) = true
    · by_cases h3 : (geB z 18442240474082181119 && leB z 9218868437227405311) = true
      · have AX := Lib.hid (fun w => zzAbs11 x w (fin_of h1))
        have AY := Lib.hid (fun w => zzAbs11 y w (fin_of h2))
        have AZ := Lib.hid (fun w => zzAbs11 z w (fin_of h3))
        by_cases j1 : (FloatKind.f64.format.order (absw x) 4652007308841189376 == some .gt) = false
        · by_cases j2 : (FloatKind.f64.format.order (absw y) 4652007308841189376 == some .gt) = false
          · by_cases j3 : (FloatKind.f64.format.order (absw z) 4652007308841189376 == some .gt) = false
            · obtain ⟨b1, b2, M, a, b, c, H⟩ := all_of (fin_of h1) (fin_of h2) (fin_of h3) (abs_of (fin_of h1) j1) (abs_of (fin_of h2) j2) (abs_of (fin_of h3) j3)
              exact law4Main x y z b1 b2 M a b c w (fin_of h1) (fin_of h2) (fin_of h3) H h1 h2 h3 j1 j2 j3
            · have j3 : (FloatKind.f64.format.order (absw z) 4652007308841189376 == some .gt) = true := by simpa using j3
              go_enter Try.func4, Try.ntmps4
              go_wp2_with fail
              refine (F1.out _).mono ?_
              rintro e w1 ⟨rfl, rfl⟩
              rw [h1]
              go_wp2_with fail
              refine (F2.out _).mono ?_
              rintro e w1 ⟨rfl, rfl⟩
              rw [h2]
              go_wp2_with fail
              refine (F3.out _).mono ?_
              rintro e w1 ⟨rfl, rfl⟩
              rw [h3]
              go_wp2_with fail
              refine (AX.out _).mono ?_
              rintro e w1 ⟨rfl, rfl⟩
              go_wp2_with fail
              refine (AY.out _).mono ?_
              rintro e w1 ⟨rfl, rfl⟩
              go_wp2_with fail
              refine (AZ.out _).mono ?_
              rintro e w1 ⟨rfl, rfl⟩
              go_wp2_with fail
              go_ret
              exact ⟨rfl, Below.refl _ _⟩
          · have j2 : (FloatKind.f64.format.order (absw y) 4652007308841189376 == some .gt) = true := by simpa using j2
            go_enter Try.func4, Try.ntmps4
            go_wp2_with fail
            refine (F1.out _).mono ?_
            rintro e w1 ⟨rfl, rfl⟩
            rw [h1]
            go_wp2_with fail
            refine (F2.out _).mono ?_
            rintro e w1 ⟨rfl, rfl⟩
            rw [h2]
            go_wp2_with fail
            refine (F3.out _).mono ?_
            rintro e w1 ⟨rfl, rfl⟩
            rw [h3]
            go_wp2_with fail
            refine (AX.out _).mono ?_
            rintro e w1 ⟨rfl, rfl⟩
            go_wp2_with fail
            refine (AY.out _).mono ?_
            rintro e w1 ⟨rfl, rfl⟩
            go_wp2_with fail
            go_ret
            exact ⟨rfl, Below.refl _ _⟩
        · have j1 : (FloatKind.f64.format.order (absw x) 4652007308841189376 == some .gt) = true := by simpa using j1
          go_enter Try.func4, Try.ntmps4
          go_wp2_with fail
          refine (F1.out _).mono ?_
          rintro e w1 ⟨rfl, rfl⟩
          rw [h1]
          go_wp2_with fail
          refine (F2.out _).mono ?_
          rintro e w1 ⟨rfl, rfl⟩
          rw [h2]
          go_wp2_with fail
          refine (F3.out _).mono ?_
          rintro e w1 ⟨rfl, rfl⟩
          rw [h3]
          go_wp2_with fail
          refine (AX.out _).mono ?_
          rintro e w1 ⟨rfl, rfl⟩
          go_wp2_with fail
          go_ret
          exact ⟨rfl, Below.refl _ _⟩
      · have h3 : (geB z 18442240474082181119 && leB z 9218868437227405311) = false := by simpa using h3
        go_enter Try.func4, Try.ntmps4
        go_wp2_with fail
        refine (F1.out _).mono ?_
        rintro e w1 ⟨rfl, rfl⟩
        rw [h1]
        go_wp2_with fail
        refine (F2.out _).mono ?_
        rintro e w1 ⟨rfl, rfl⟩
        rw [h2]
        go_wp2_with fail
        refine (F3.out _).mono ?_
        rintro e w1 ⟨rfl, rfl⟩
        rw [h3]
        go_wp2_with fail
        go_ret
        exact ⟨rfl, Below.refl _ _⟩
    · have h2 : (geB y 18442240474082181119 && leB y 9218868437227405311) = false := by simpa using h2
      go_enter Try.func4, Try.ntmps4
      go_wp2_with fail
      refine (F1.out _).mono ?_
      rintro e w1 ⟨rfl, rfl⟩
      rw [h1]
      go_wp2_with fail
      refine (F2.out _).mono ?_
      rintro e w1 ⟨rfl, rfl⟩
      rw [h2]
      go_wp2_with fail
      go_ret
      exact ⟨rfl, Below.refl _ _⟩
  · have h1 : (geB x 18442240474082181119 && leB x 9218868437227405311) = false := by simpa using h1
    go_enter Try.func4, Try.ntmps4
    go_wp2_with fail
    refine (F1.out _).mono ?_
    rintro e w1 ⟨rfl, rfl⟩
    rw [h1]
    go_wp2_with fail
    go_ret
    exact ⟨rfl, Below.refl _ _⟩
end Go.Proofs.Ytekideiinifffaa.F64
