/- The law FnXyzToOklabInvertedByOklabToXyz returns true. Written by gen_cblaw.py. -/
import Derived.Test.YtekideiinifffaaCbs
namespace Go.Proofs.Ytekideiinifffaa.F64
open Go Go.RowKit Go.Proofs.Ytekideiinifffaa.FL
set_option linter.unusedVariables false
attribute [local irreducible] q0 q1 q2 v0 v1 v2 u0 u1 u2 geB leB absw
set_option maxRecDepth 100000 in
set_option maxHeartbeats 4000000 in
theorem law3Main (x y z : Nat) (b1 b2 : Bool) (M a b c : Nat) (w : World) (hx : FL.Fin x) (hy : FL.Fin y) (hz : FL.Fin z) (h : All x y z b1 b2 M a b c)
    (i1 : (geB x 13875379345695965184 && leB x 4652007308841189376) = true) (i2 : (geB y 13875379345695965184 && leB y 4652007308841189376) = true) (i3 : (geB z 13875379345695965184 && leB z 4652007308841189376) = true) :
    Calls Try.prog 3 #[.float .f64 x, .float .f64 y, .float .f64 z] w fun e w' => e = .returned (.bool true) ∧ Below w.heap.size w w' := by
  have HE := Lib.hid (end_a hx hy hz h)
  have g1 := h.g1
  have g2 := h.g2
  have hM := h.hM
  have HB := Lib.hid h.back
  have AX := Lib.hid (fun w => zzAbs8 x w hx)
  have AY := Lib.hid (fun w => zzAbs8 y w hy)
  have AZ := Lib.hid (fun w => zzAbs8 z w hz)
  clear h hx hy hz
  have F1 := Lib.hid (fun w => (show Calls Try.prog 5 #[.float .f64 x, .float .f64 13875379345695965184, .float .f64 4652007308841189376] w fun e w' => e = .returned (.bool true) ∧ w = w' by have := zzIn x 13875379345695965184 4652007308841189376 w; rw [i1] at this; exact this))
  have F2 := Lib.hid (fun w => (show Calls Try.prog 5 #[.float .f64 y, .float .f64 13875379345695965184, .float .f64 4652007308841189376] w fun e w' => e = .returned (.bool true) ∧ w = w' by have := zzIn y 13875379345695965184 4652007308841189376 w; rw [i2] at this; exact this))
  have F3 := Lib.hid (fun w => (show Calls Try.prog 5 #[.float .f64 z, .float .f64 13875379345695965184, .float .f64 4652007308841189376] w fun e w' => e = .returned (.bool true) ∧ w = w' by have := zzIn z 13875379345695965184 4652007308841189376 w; rw [i3] at this; exact this))
  clear i1 i2 i3
  go_enter Try.func3, Try.ntmps3
  go_wp2_with fail
  refine (F1.out _).mono ?_
  rintro e w1 ⟨rfl, rfl⟩
  go_wp2_with fail
  refine (F2.out _).mono ?_
  rintro e w1 ⟨rfl, rfl⟩
  go_wp2_with fail
  refine (F3.out _).mono ?_
  rintro e w1 ⟨rfl, rfl⟩
  go_wp2_with fail
  refine (zzTo6 x y z a b c _ HB.out.xi HB.out.xo HB.out.ca HB.out.cb HB.out.cc).mono ?_
  rintro e w2 ⟨rfl, hb2⟩
  go_wp2_with fail
  refine (zzOk7 (v0 a b c) (v1 a b c) (v2 a b c) _ HB.out.ok).mono ?_
  rintro e w3 ⟨rfl, hb3⟩
  have hB := hb2.trans (hb3.mono hb2.size)
  clear hb2 hb3 HB
  go_wp2_with fail
  refine (AX.out _).mono ?_
  rintro e w4 ⟨rfl, rfl⟩
  go_wp2_with fail
  refine (AY.out _).mono ?_
  rintro e w4 ⟨rfl, rfl⟩
  have key : ∀ m, (FloatKind.f64.format.order (absw z) m == some .gt) = b2 → M = mxw m (absw z) b2 → True := fun _ _ _ => trivial
  clear key
  cases b1 <;> cases b2 <;> simp only [mxw, Bool.false_eq_true, if_false, if_true] at g2 hM
  · have hM2 := hM
    clear hM
    go_wp2_with fail
    refine (AZ.out _).mono ?_
    rintro e w4 ⟨rfl, rfl⟩
    subst hM2
    have t1 := fun (ty : TypeId) (w : World) => run_float_arith (P := Try.prog) w .add ty .f64 _ _ _ (fo_some HE.out.t1)
    have t2 := fun (ty : TypeId) (w : World) => run_float_arith (P := Try.prog) w .mul ty .f64 _ _ _ (fo_some HE.out.t2)
    go_wp2_with fail
    refine (zzNear _ _ _ _ HE.out.n0).mono ?_
    rintro e w4 ⟨rfl, rfl⟩
    go_wp2_with fail
    refine (zzNear _ _ _ _ HE.out.n1).mono ?_
    rintro e w4 ⟨rfl, rfl⟩
    go_wp2_with fail
    refine (zzNear _ _ _ _ HE.out.n2).mono ?_
    rintro e w4 ⟨rfl, rfl⟩
    go_wp2_with fail
    go_ret
    exact ⟨rfl, hB⟩
  · have hM2 := hM
    clear hM
    go_wp2_with fail
    refine (AZ.out _).mono ?_
    rintro e w4 ⟨rfl, rfl⟩
    subst hM2
    have t1 := fun (ty : TypeId) (w : World) => run_float_arith (P := Try.prog) w .add ty .f64 _ _ _ (fo_some HE.out.t1)
    have t2 := fun (ty : TypeId) (w : World) => run_float_arith (P := Try.prog) w .mul ty .f64 _ _ _ (fo_some HE.out.t2)
    go_wp2_with fail
    refine (AZ.out _).mono ?_
    rintro e w4 ⟨rfl, rfl⟩
    go_wp2_with fail
    refine (zzNear _ _ _ _ HE.out.n0).mono ?_
    rintro e w4 ⟨rfl, rfl⟩
    go_wp2_with fail
    refine (zzNear _ _ _ _ HE.out.n1).mono ?_
    rintro e w4 ⟨rfl, rfl⟩
    go_wp2_with fail
    refine (zzNear _ _ _ _ HE.out.n2).mono ?_
    rintro e w4 ⟨rfl, rfl⟩
    go_wp2_with fail
    go_ret
    exact ⟨rfl, hB⟩
  · have hM2 := hM
    clear hM
    go_wp2_with fail
    refine (AY.out _).mono ?_
    rintro e w4 ⟨rfl, rfl⟩
    go_wp2_with fail
    refine (AZ.out _).mono ?_
    rintro e w4 ⟨rfl, rfl⟩
    subst hM2
    have t1 := fun (ty : TypeId) (w : World) => run_float_arith (P := Try.prog) w .add ty .f64 _ _ _ (fo_some HE.out.t1)
    have t2 := fun (ty : TypeId) (w : World) => run_float_arith (P := Try.prog) w .mul ty .f64 _ _ _ (fo_some HE.out.t2)
    go_wp2_with fail
    refine (zzNear _ _ _ _ HE.out.n0).mono ?_
    rintro e w4 ⟨rfl, rfl⟩
    go_wp2_with fail
    refine (zzNear _ _ _ _ HE.out.n1).mono ?_
    rintro e w4 ⟨rfl, rfl⟩
    go_wp2_with fail
    refine (zzNear _ _ _ _ HE.out.n2).mono ?_
    rintro e w4 ⟨rfl, rfl⟩
    go_wp2_with fail
    go_ret
    exact ⟨rfl, hB⟩
  · have hM2 := hM
    clear hM
    go_wp2_with fail
    refine (AY.out _).mono ?_
    rintro e w4 ⟨rfl, rfl⟩
    go_wp2_with fail
    refine (AZ.out _).mono ?_
    rintro e w4 ⟨rfl, rfl⟩
    subst hM2
    have t1 := fun (ty : TypeId) (w : World) => run_float_arith (P := Try.prog) w .add ty .f64 _ _ _ (fo_some HE.out.t1)
    have t2 := fun (ty : TypeId) (w : World) => run_float_arith (P := Try.prog) w .mul ty .f64 _ _ _ (fo_some HE.out.t2)
    go_wp2_with fail
    refine (AZ.out _).mono ?_
    rintro e w4 ⟨rfl, rfl⟩
    go_wp2_with fail
    refine (zzNear _ _ _ _ HE.out.n0).mono ?_
    rintro e w4 ⟨rfl, rfl⟩
    go_wp2_with fail
    refine (zzNear _ _ _ _ HE.out.n1).mono ?_
    rintro e w4 ⟨rfl, rfl⟩
    go_wp2_with fail
    refine (zzNear _ _ _ _ HE.out.n2).mono ?_
    rintro e w4 ⟨rfl, rfl⟩
    go_wp2_with fail
    go_ret
    exact ⟨rfl, hB⟩
theorem in_of {x : Nat} (h : (geB x 13875379345695965184 && leB x 4652007308841189376) = true) : FL.Fin x ∧ rv (absw x) ≤ 1000 := by
  have a := (Bool.and_eq_true_iff.1 h).1
  have b := (Bool.and_eq_true_iff.1 h).2
  unfold geB at a
  unfold leB at b
  have hf : FL.Fin x := fin_between (lo := 13875379345695965184) (hi := 4652007308841189376) fm1000 f1000 a b
  have h1 : (FloatKind.f64.format.order x 13875379345695965184 == some .gt || FloatKind.f64.format.order x 13875379345695965184 == some .eq) = decide (rv 13875379345695965184 ≤ rv x) := ge_iff hf fm1000
  have h2 : (FloatKind.f64.format.order x 4652007308841189376 == some .lt || FloatKind.f64.format.order x 4652007308841189376 == some .eq) = decide (rv x ≤ rv 4652007308841189376) := le_iff hf f1000
  rw [h1] at a
  rw [h2] at b
  have a := of_decide_eq_true a
  have b := of_decide_eq_true b
  rw [wm1000] at a
  rw [w1000] at b
  obtain ⟨-, -, -, k⟩ := absw_rv hf
  exact ⟨hf, by grind⟩
theorem law3 (x y z : Nat) (w : World) (_t1 : (Lit.float .f64 x).wf = true) (_t2 : (Lit.float .f64 y).wf = true) (_t3 : (Lit.float .f64 z).wf = true) : Calls Try.prog 3 #[.float .f64 x, .float .f64 y, .float .f64 z] w fun e w' => e = .returned (.bool true) ∧ Below w.heap.size w w' := by
  have F1 := Lib.hid (fun w => zzIn x 13875379345695965184 4652007308841189376 w)
  have F2 := Lib.hid (fun w => zzIn y 13875379345695965184 4652007308841189376 w)
  have F3 := Lib.hid (fun w => zzIn z 13875379345695965184 4652007308841189376 w)
  by_cases h1 : (geB x 13875379345695965184 && leB x 4652007308841189376) = true
  · by_cases h2 : (geB y 13875379345695965184 && leB y 4652007308841189376) = true
    · by_cases h3 : (geB z 13875379345695965184 && leB z 4652007308841189376) = true
      · obtain ⟨hx, kx⟩ := in_of h1
        obtain ⟨hy, ky⟩ := in_of h2
        obtain ⟨hz, kz⟩ := in_of h3
        obtain ⟨b1, b2, M, a, b, c, H⟩ := all_of hx hy hz kx ky kz
        exact law3Main x y z b1 b2 M a b c w hx hy hz H h1 h2 h3
      · have h3 : (geB z 13875379345695965184 && leB z 4652007308841189376) = false := by simpa using h3
        go_enter Try.func3, Try.ntmps3
        go_wp2_with fail
        refine (F1.out _).mono ?_
        rintro e w1 ⟨rfl, rfl⟩
        rw [h1]
        go_wp2_with fail
        refine (F2.out _).mono ?_
        rintro e w1 ⟨rfl, rfl⟩
        rw [h2]
        go_wp2_with fail
        refine (F3.out _).mono ?_
        rintro e w1 ⟨rfl, rfl⟩
        rw [h3]
        go_wp2_with fail
        go_ret
        exact ⟨rfl, Below.refl _ _⟩
    · have h2 : (geB y 13875379345695965184 && leB y 4652007308841189376) = false := by simpa using h2
      go_enter Try.func3, Try.ntmps3
      go_wp2_with fail
      refine (F1.out _).mono ?_
      rintro e w1 ⟨rfl, rfl⟩
      rw [h1]
      go_wp2_with fail
      refine (F2.out _).mono ?_
      rintro e w1 ⟨rfl, rfl⟩
      rw [h2]
      go_wp2_with fail
      go_ret
      exact ⟨rfl, Below.refl _ _⟩
  · have h1 : (geB x 13875379345695965184 && leB x 4652007308841189376) = false := by simpa using h1
    go_enter Try.func3, Try.ntmps3
    go_wp2_with fail
    refine (F1.out _).mono ?_
    rintro e w1 ⟨rfl, rfl⟩
    rw [h1]
    go_wp2_with fail
    go_ret
    exact ⟨rfl, Below.refl _ _⟩
end Go.Proofs.Ytekideiinifffaa.F64
