/- The verifier's small functions, the tolerances. Written by gen_cblaw.py. -/
import Derived.Test.YtekideiinifffaaCbq
import Derived.Test.YtekideiinifffaaZz
namespace Go.Proofs.Ytekideiinifffaa.F64
open Go Go.RowKit Go.Proofs.Ytekideiinifffaa.FL
set_option linter.unusedVariables false
theorem fin_zero : FL.Fin 0 := by unfold FL.Fin; omega
theorem rv_zero : rv 0 = 0 := rv_word_zero false
def absw (x : Nat) : Nat := if rv x < 0 then x ^^^ 2 ^ 63 else x
theorem absw_fin {x : Nat} (h : FL.Fin x) : FL.Fin (absw x) := by unfold absw; split; exact neg_fin h; exact h
theorem absw_rv {x : Nat} (h : FL.Fin x) : 0 ≤ rv (absw x) ∧ rv x ≤ rv (absw x) ∧ - rv x ≤ rv (absw x) ∧ (rv (absw x) = rv x ∨ rv (absw x) = - rv x) := by
  unfold absw; split
  · rw [neg_rv h]; grind
  · grind
theorem zzAbs8 (x : Nat) (w : World) (hx : FL.Fin x) :
    Calls Try.prog 8 #[.float .f64 x] w fun e w' => e = .returned (.float .f64 (absw x)) ∧ w = w' := by
  have hz := fin_zero
  have h0 := rv_zero
  by_cases hn : rv x < 0
  · have o1 : FloatKind.f64.format.order x 0 = some .lt := by
      rcases order_fin hx hz with ⟨_, e⟩ | ⟨_, _⟩ | ⟨_, _⟩
      · exact e
      · grind
      · grind
    have HA := Lib.hid (show absw x = Op.negFloat .f64 x by unfold absw; rw [if_pos hn]; rfl)
    clear hx hz h0 hn
    go_enter Try.func8, Try.ntmps8
    go_wp2
    go_ret
    exact ⟨by rw [HA.out]; rfl, rfl⟩
  · have o1 : (FloatKind.f64.format.order x 0 == some .lt) = false := by
      have := lt_iff hx hz
      rw [h0] at this
      exact this.trans (by simpa using hn)
    have HA := Lib.hid (show absw x = x by unfold absw; rw [if_neg hn])
    clear hx hz h0 hn
    go_enter Try.func8, Try.ntmps8
    go_wp2
    go_ret
    exact ⟨by rw [HA.out]; rfl, rfl⟩
theorem zzAbs11 (x : Nat) (w : World) (hx : FL.Fin x) :
    Calls Try.prog 11 #[.float .f64 x] w fun e w' => e = .returned (.float .f64 (absw x)) ∧ w = w' := by
  have hz := fin_zero
  have h0 := rv_zero
  by_cases hn : rv x < 0
  · have o1 : FloatKind.f64.format.order x 0 = some .lt := by
      rcases order_fin hx hz with ⟨_, e⟩ | ⟨_, _⟩ | ⟨_, _⟩
      · exact e
      · grind
      · grind
    have HA := Lib.hid (show absw x = Op.negFloat .f64 x by unfold absw; rw [if_pos hn]; rfl)
    clear hx hz h0 hn
    go_enter Try.func11, Try.ntmps11
    go_wp2
    go_ret
    exact ⟨by rw [HA.out]; rfl, rfl⟩
  · have o1 : (FloatKind.f64.format.order x 0 == some .lt) = false := by
      have := lt_iff hx hz
      rw [h0] at this
      exact this.trans (by simpa using hn)
    have HA := Lib.hid (show absw x = x by unfold absw; rw [if_neg hn])
    clear hx hz h0 hn
    go_enter Try.func11, Try.ntmps11
    go_wp2
    go_ret
    exact ⟨by rw [HA.out]; rfl, rfl⟩
def geB (x lo : Nat) : Bool := (FloatKind.f64.format.order x lo == some .gt || FloatKind.f64.format.order x lo == some .eq)
def leB (x hi : Nat) : Bool := (FloatKind.f64.format.order x hi == some .lt || FloatKind.f64.format.order x hi == some .eq)
theorem zzIn (x lo hi : Nat) (w : World) : Calls Try.prog 5 #[.float .f64 x, .float .f64 lo, .float .f64 hi] w fun e w' => e = .returned (.bool (geB x lo && leB x hi)) ∧ w = w' := by
  by_cases h1 : geB x lo = true
  · have o1 : (FloatKind.f64.format.order x lo == some .gt || FloatKind.f64.format.order x lo == some .eq) = true := h1
    by_cases h2 : leB x hi = true
    · have o2 : (FloatKind.f64.format.order x hi == some .lt || FloatKind.f64.format.order x hi == some .eq) = true := h2
      rw [h1, h2]
      clear h1 h2
      go_enter Try.func5, Try.ntmps5
      go_wp2
      go_ret
      exact ⟨rfl, rfl⟩
    · have h2 : leB x hi = false := by simpa using h2
      have o2 : (FloatKind.f64.format.order x hi == some .lt || FloatKind.f64.format.order x hi == some .eq) = false := h2
      rw [h1, h2]
      clear h1 h2
      go_enter Try.func5, Try.ntmps5
      go_wp2
      go_ret
      exact ⟨rfl, rfl⟩
  · have h1 : geB x lo = false := by simpa using h1
    have o1 : (FloatKind.f64.format.order x lo == some .gt || FloatKind.f64.format.order x lo == some .eq) = false := h1
    rw [h1]
    clear h1
    go_enter Try.func5, Try.ntmps5
    go_wp2
    go_ret
    exact ⟨rfl, rfl⟩
theorem zzFin (x : Nat) (w : World) : Calls Try.prog 10 #[.float .f64 x] w fun e w' => e = .returned (.bool (geB x 18442240474082181119 && leB x 9218868437227405311)) ∧ w = w' := by
  by_cases h1 : geB x 18442240474082181119 = true
  · have o1 : (FloatKind.f64.format.order x 18442240474082181119 == some .gt || FloatKind.f64.format.order x 18442240474082181119 == some .eq) = true := h1
    by_cases h2 : leB x 9218868437227405311 = true
    · have o2 : (FloatKind.f64.format.order x 9218868437227405311 == some .lt || FloatKind.f64.format.order x 9218868437227405311 == some .eq) = true := h2
      rw [h1, h2]
      clear h1 h2
      go_enter Try.func10, Try.ntmps10
      go_wp2
      go_ret
      exact ⟨rfl, rfl⟩
    · have h2 : leB x 9218868437227405311 = false := by simpa using h2
      have o2 : (FloatKind.f64.format.order x 9218868437227405311 == some .lt || FloatKind.f64.format.order x 9218868437227405311 == some .eq) = false := h2
      rw [h1, h2]
      clear h1 h2
      go_enter Try.func10, Try.ntmps10
      go_wp2
      go_ret
      exact ⟨rfl, rfl⟩
  · have h1 : geB x 18442240474082181119 = false := by simpa using h1
    have o1 : (FloatKind.f64.format.order x 18442240474082181119 == some .gt || FloatKind.f64.format.order x 18442240474082181119 == some .eq) = false := h1
    rw [h1]
    clear h1
    go_enter Try.func10, Try.ntmps10
    go_wp2
    go_ret
    exact ⟨rfl, rfl⟩
/-- The difference and its comparison with the tolerance. -/
structure Nr (w x tol : Nat) : Prop where
  ok : F64.ok .sub w x
  fin : FL.Fin (fo .sub w x)
  le : (FloatKind.f64.format.order (absw (fo .sub w x)) tol == some .lt || FloatKind.f64.format.order (absw (fo .sub w x)) tol == some .eq) = true
theorem nr_of {w x tol : Nat} {D : Rat} (hw : FL.Fin w) (hx : FL.Fin x) (ht : FL.Fin tol) (h1 : -D ≤ rv w - rv x) (h2 : rv w - rv x ≤ D) (hD : D ≤ 1000000) (h : D * 2 + 2 * eta ≤ rv tol) : Nr w x tol := by
  have he := eta_pos
  have big := big_le
  have hu := u53_eq
  obtain ⟨o, r, -⟩ := fo_sub hw hx (by grind) (by grind)
  have e := r.err D h1 h2
  rw [hu] at e
  obtain ⟨-, -, -, a⟩ := absw_rv r.fin
  refine ⟨o, r.fin, (le_iff (absw_fin r.fin) ht).trans (decide_eq_true ?_)⟩
  rcases a with a | a <;> rw [a] <;> grind
theorem zzNear (g x tol : Nat) (w : World) (h : Nr g x tol) : Calls Try.prog 9 #[.float .f64 g, .float .f64 x, .float .f64 tol] w fun e w' => e = .returned (.bool true) ∧ w = w' := by
  have r1 := fun (ty : TypeId) (w : World) => run_float_arith (P := Try.prog) w .sub ty .f64 g x _ (fo_some h.ok)
  have A := Lib.hid (fun w => zzAbs8 _ w h.fin)
  have o := h.le
  clear h
  go_enter Try.func9, Try.ntmps9
  go_wp2_with (go_at_call 8; refine (A.out _).mono ?_; rintro e w1 ⟨rfl, rfl⟩)
  go_ret
  exact ⟨rfl, rfl⟩
theorem f1 : FL.Fin 4607182418800017408 := by unfold FL.Fin; decide
theorem w1 : rv 4607182418800017408 = 1 := by decide +kernel
theorem f1000 : FL.Fin 4652007308841189376 := by unfold FL.Fin; decide
theorem w1000 : rv 4652007308841189376 = 1000 := by decide +kernel
theorem fm1000 : FL.Fin 13875379345695965184 := by unfold FL.Fin; decide
theorem wm1000 : rv 13875379345695965184 = -1000 := by decide +kernel
theorem f9 : FL.Fin 4472406533629990549 := by unfold FL.Fin; decide
theorem w9 : 9 / 10000000000 ≤ rv 4472406533629990549 ∧ rv 4472406533629990549 ≤ 2 / 1000000000 := by decide +kernel
theorem f7 : FL.Fin 4502148214488346440 := by unfold FL.Fin; decide
theorem w7 : 9 / 100000000 ≤ rv 4502148214488346440 ∧ rv 4502148214488346440 ≤ 2 / 10000000 := by decide +kernel
theorem f300 : FL.Fin 118622047889322841 := by unfold FL.Fin; decide
theorem w300 : 1000000000000 * eta ≤ rv 118622047889322841 ∧ rv 118622047889322841 ≤ 1 := by unfold eta FL.p2; decide +kernel
def tolA (M : Nat) : Nat := fo .mul 4472406533629990549 (fo .add 4607182418800017408 M)
theorem tol_a {M : Nat} (h : FL.Fin M) (h0 : 0 ≤ rv M) (h1 : rv M ≤ 1000) : ok .add 4607182418800017408 M ∧ ok .mul 4472406533629990549 (fo .add 4607182418800017408 M) ∧ FL.Fin (tolA M) ∧ 8 / 10000000000 * (1 + rv M) ≤ rv (tolA M) := by
  have he := eta_pos
  have hel := eta_le
  have big := big_le
  have hu := u53_eq
  obtain ⟨n1, n2⟩ := w9
  obtain ⟨o1, r1, -⟩ := fo_add f1 h (by rw [w1]; grind) (by rw [w1]; grind)
  have e1 := r1.err (1 + rv M) (by rw [w1]; grind) (by rw [w1]; grind)
  rw [hu, w1] at e1
  generalize hs : fo .add 4607182418800017408 M = s at *
  have m1 := Rat.mul_le_mul_of_nonneg_right n1 (show 0 ≤ rv s by grind)
  have m2 := Rat.mul_le_mul_of_nonneg_right n2 (show 0 ≤ rv s by grind)
  obtain ⟨o2, r2, -, -⟩ := fo_mul f9 r1.fin (by grind) (by grind)
  have e2 := r2.err (2 / 1000000000 * rv s) (by grind) (by grind)
  rw [hu] at e2
  unfold tolA
  rw [hs]
  exact ⟨o1, o2, r2.fin, by grind⟩
def tolB (M : Nat) : Nat := fo .add (fo .mul 4502148214488346440 M) 118622047889322841
theorem tol_b {M : Nat} (h : FL.Fin M) (h0 : 0 ≤ rv M) (h1 : rv M ≤ 1000) : ok .mul 4502148214488346440 M ∧ ok .add (fo .mul 4502148214488346440 M) 118622047889322841 ∧ FL.Fin (tolB M) ∧ 8 / 100000000 * rv M + 900000000000 * eta ≤ rv (tolB M) := by
  have he := eta_pos
  have hel := eta_le
  have big := big_le
  have hu := u53_eq
  obtain ⟨n1, n2⟩ := w7
  obtain ⟨k1, k2⟩ := w300
  have m1 := Rat.mul_le_mul_of_nonneg_right n1 h0
  have m2 := Rat.mul_le_mul_of_nonneg_right n2 h0
  obtain ⟨o1, r1, -, -⟩ := fo_mul f7 h (by grind) (by grind)
  have e1 := r1.err (2 / 10000000 * rv M) (by grind) (by grind)
  rw [hu] at e1
  generalize hs : fo .mul 4502148214488346440 M = s at *
  obtain ⟨o2, r2, -⟩ := fo_add r1.fin f300 (by grind) (by grind)
  have e2 := r2.err (rv s + rv 118622047889322841 + 2 * eta) (by grind) (by grind)
  rw [hu] at e2
  unfold tolB
  rw [hs]
  exact ⟨o1, o2, r2.fin, by grind⟩
/-- The greatest magnitude, as the text finds it. -/
def mxw (u v : Nat) (b : Bool) : Nat := if b then v else u
theorem mx_of {u v : Nat} (hu : FL.Fin u) (hv : FL.Fin v) : ∃ b, (FloatKind.f64.format.order v u == some .gt) = b ∧ FL.Fin (mxw u v b) ∧ rv u ≤ rv (mxw u v b) ∧ rv v ≤ rv (mxw u v b) ∧ (∀ X, rv u ≤ X → rv v ≤ X → rv (mxw u v b) ≤ X) := by
  have g : (FloatKind.f64.format.order v u == some .gt) = decide (rv u < rv v) := gt_iff hv hu
  by_cases h : rv u < rv v
  · refine ⟨true, by rw [g]; exact decide_eq_true h, hv, ?_, ?_, fun X _ h2 => h2⟩
    · show rv u ≤ rv v
      exact Rat.le_of_lt h
    · exact Rat.le_refl
  · refine ⟨false, by rw [g]; exact decide_eq_false h, hu, Rat.le_refl, ?_, fun X h1 _ => h1⟩
    show rv v ≤ rv u
    exact Rat.not_lt.1 h
abbrev W0 (a b c : Nat) : Nat := q0 (v0 a b c) (v1 a b c) (v2 a b c)
abbrev W1 (a b c : Nat) : Nat := q1 (v0 a b c) (v1 a b c) (v2 a b c)
abbrev W2 (a b c : Nat) : Nat := q2 (v0 a b c) (v1 a b c) (v2 a b c)
structure All (x y z : Nat) (b1 b2 : Bool) (M : Nat) (a b c : Nat) : Prop where
  g1 : (FloatKind.f64.format.order (absw y) (absw x) == some .gt) = b1
  g2 : (FloatKind.f64.format.order (absw z) (mxw (absw x) (absw y) b1) == some .gt) = b2
  hM : M = mxw (mxw (absw x) (absw y) b1) (absw z) b2
  fin : FL.Fin M
  m0 : 0 ≤ rv M
  m1 : rv M ≤ 1000
  back : Back x y z a b c (rv M)
theorem all_of {x y z : Nat} (hx : FL.Fin x) (hy : FL.Fin y) (hz : FL.Fin z) (kx : rv (absw x) ≤ 1000) (ky : rv (absw y) ≤ 1000) (kz : rv (absw z) ≤ 1000) : ∃ b1 b2 M a b c, All x y z b1 b2 M a b c := by
  obtain ⟨x0, x1, x2, -⟩ := absw_rv hx
  obtain ⟨y0, y1, y2, -⟩ := absw_rv hy
  obtain ⟨z0, z1, z2, -⟩ := absw_rv hz
  obtain ⟨b1, g1, f1, l1, l2, l3⟩ := mx_of (absw_fin hx) (absw_fin hy)
  obtain ⟨b2, g2, f2, l4, l5, l6⟩ := mx_of f1 (absw_fin hz)
  have lM := l6 1000 (l3 1000 kx ky) kz
  obtain ⟨a, b, c, k⟩ := round (m := rv (mxw (mxw (absw x) (absw y) b1) (absw z) b2)) hx hy hz (by grind) (by grind) (by grind) (by grind) (by grind) (by grind) lM
  exact ⟨b1, b2, _, a, b, c, g1, g2, rfl, f2, by grind, lM, k⟩
structure EndA (x y z M a b c : Nat) : Prop where
  t1 : ok .add 4607182418800017408 M
  t2 : ok .mul 4472406533629990549 (fo .add 4607182418800017408 M)
  n0 : Nr (W0 a b c) x (tolA M)
  n1 : Nr (W1 a b c) y (tolA M)
  n2 : Nr (W2 a b c) z (tolA M)
theorem end_a {x y z M a b c : Nat} {b1 b2 : Bool} (hx : FL.Fin x) (hy : FL.Fin y) (hz : FL.Fin z) (h : All x y z b1 b2 M a b c) : EndA x y z M a b c := by
  obtain ⟨o1, o2, f, l⟩ := tol_a h.fin h.m0 h.m1
  have he := eta_pos
  have hel := eta_le
  have m0 := h.m0
  have m1 := h.m1
  have k := h.back
  exact ⟨o1, o2, nr_of k.f0 hx f k.e0.1 k.e0.2 (by grind) (by grind), nr_of k.f1 hy f k.e1.1 k.e1.2 (by grind) (by grind), nr_of k.f2 hz f k.e2.1 k.e2.2 (by grind) (by grind)⟩
structure EndB (x y z M a b c : Nat) : Prop where
  t1 : ok .mul 4502148214488346440 M
  t2 : ok .add (fo .mul 4502148214488346440 M) 118622047889322841
  n0 : Nr (W0 a b c) x (tolB M)
  n1 : Nr (W1 a b c) y (tolB M)
  n2 : Nr (W2 a b c) z (tolB M)
theorem end_b {x y z M a b c : Nat} {b1 b2 : Bool} (hx : FL.Fin x) (hy : FL.Fin y) (hz : FL.Fin z) (h : All x y z b1 b2 M a b c) : EndB x y z M a b c := by
  obtain ⟨o1, o2, f, l⟩ := tol_b h.fin h.m0 h.m1
  have he := eta_pos
  have hel := eta_le
  have m0 := h.m0
  have m1 := h.m1
  have k := h.back
  exact ⟨o1, o2, nr_of k.f0 hx f k.e0.1 k.e0.2 (by grind) (by grind), nr_of k.f1 hy f k.e1.1 k.e1.2 (by grind) (by grind), nr_of k.f2 hz f k.e2.1 k.e2.2 (by grind) (by grind)⟩
end Go.Proofs.Ytekideiinifffaa.F64
