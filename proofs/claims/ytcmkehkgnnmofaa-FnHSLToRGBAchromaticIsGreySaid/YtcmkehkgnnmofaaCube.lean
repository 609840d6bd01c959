/- hsl_to_rgb in plain Lean: what its words are bounded by. -/
import Derived.Test.YtcmkehkgnnmofaaHsl
namespace Go.Proofs.Ytcmkehkgnnmofaa.F64
open Go.Proofs.Ytcmkehkgnnmofaa.FL
theorem fo_add {x y : Nat} (hx : FL.Fin x) (hy : FL.Fin y) (h1 : -p2 1023 ≤ rv x + rv y) (h2 : rv x + rv y ≤ p2 1023) :
    ok .add x y ∧ Rnd (rv x + rv y) (fo .add x y) ∧ IsNear (rv x + rv y) (fo .add x y) := by
  obtain ⟨z, hz, hr, hn⟩ := add_rnd hx hy h1 h2
  have e : floatBits .add .f64 x y = some z := hz
  unfold ok fo; rw [e]; exact ⟨rfl, hr, hn⟩
theorem fo_sub {x y : Nat} (hx : FL.Fin x) (hy : FL.Fin y) (h1 : -p2 1023 ≤ rv x - rv y) (h2 : rv x - rv y ≤ p2 1023) :
    ok .sub x y ∧ Rnd (rv x - rv y) (fo .sub x y) ∧ IsNear (rv x - rv y) (fo .sub x y) := by
  obtain ⟨z, hz, hr, hn⟩ := sub_rnd hx hy h1 h2
  have e : floatBits .sub .f64 x y = some z := hz
  unfold ok fo; rw [e]; exact ⟨rfl, hr, hn⟩
theorem fo_mul {x y : Nat} (hx : FL.Fin x) (hy : FL.Fin y) (h1 : -p2 1023 ≤ rv x * rv y) (h2 : rv x * rv y ≤ p2 1023) :
    ok .mul x y ∧ Rnd (rv x * rv y) (fo .mul x y) ∧ IsNear (rv x * rv y) (fo .mul x y) ∧ (fo .mul x y / 2 ^ 63 % 2 == 1) = ((x / 2 ^ 63 % 2 == 1) ^^ (y / 2 ^ 63 % 2 == 1)) := by
  obtain ⟨z, hz, hr, hn, hs⟩ := mul_rnd hx hy h1 h2
  have e : floatBits .mul .f64 x y = some z := hz
  unfold ok fo; rw [e]; exact ⟨rfl, hr, hn, hs⟩
theorem fo_div {x y : Nat} (hx : FL.Fin x) (hy : FL.Fin y) (hy0 : rv y ≠ 0) (h1 : -p2 1023 ≤ rv x / rv y) (h2 : rv x / rv y ≤ p2 1023) :
    ok .quo x y ∧ Rnd (rv x / rv y) (fo .quo x y) ∧ (fo .quo x y / 2 ^ 63 % 2 == 1) = ((x / 2 ^ 63 % 2 == 1) ^^ (y / 2 ^ 63 % 2 == 1)) := by
  obtain ⟨z, hz, hr, hs⟩ := div_rnd hx hy hy0 h1 h2
  have e : floatBits .quo .f64 x y = some z := hz
  unfold ok fo; rw [e]; exact ⟨rfl, hr, hs⟩


theorem fin_le {x : Nat} (h : FL.Fin x) : -p2 1024 ≤ rv x ∧ rv x ≤ p2 1024 := by
  obtain ⟨E, K, hK, hEK, hr, hv⟩ := fin_form h
  unfold FL.Fin at h
  have hE : E ≤ 2045 := by omega
  have k2 : (K : Rat) ≤ ((2 ^ 53 : Nat) : Rat) := by exact_mod_cast Nat.le_of_lt hK
  have a1 := Rat.mul_le_mul_of_nonneg_right k2 (Rat.le_of_lt (p2_pos ((E : Int) - 1074)))
  rw [← p2_nat, ← p2_add] at a1
  have a2 : p2 (((53 : Nat) : Int) + ((E : Int) - 1074)) ≤ p2 1024 := p2_le (by omega)
  have a3 := mulp_nn K ((E : Int) - 1074)
  have a4 := p2_pos 1024
  rw [hv]
  rcases sg_pm (x / 2 ^ 63 % 2 == 1) with hs | hs <;> rw [hs] <;> constructor <;> grind
theorem p2_1024 : p2 1024 = 2 * p2 1023 := by rw [show (1024 : Int) = 1 + 1023 by omega, p2_add, p2_one]

theorem c30 : rv 4629137466983448576 = 30 := by decide +kernel
theorem f30 : FL.Fin 4629137466983448576 := by unfold FL.Fin; decide
theorem c12 : rv 4622945017495814144 = 12 := by decide +kernel
theorem f12 : FL.Fin 4622945017495814144 := by unfold FL.Fin; decide
theorem c3 : rv 4613937818241073152 = 3 := by decide +kernel
theorem f3 : FL.Fin 4613937818241073152 := by unfold FL.Fin; decide
theorem c9 : rv 4621256167635550208 = 9 := by decide +kernel
theorem f9 : FL.Fin 4621256167635550208 := by unfold FL.Fin; decide
theorem c360 : rv 4645040803167600640 = 360 := by decide +kernel
theorem f360 : FL.Fin 4645040803167600640 := by unfold FL.Fin; decide
theorem c100 : rv 4636737291354636288 = 100 := by decide +kernel
theorem f100 : FL.Fin 4636737291354636288 := by unfold FL.Fin; decide
theorem c8 : rv 4620693217682128896 = 8 := by decide +kernel
theorem f8 : FL.Fin 4620693217682128896 := by unfold FL.Fin; decide
theorem c4 : rv 4616189618054758400 = 4 := by decide +kernel
theorem f4 : FL.Fin 4616189618054758400 := by unfold FL.Fin; decide
theorem f0 : FL.Fin 0 := by unfold FL.Fin; omega
theorem c0 : rv 0 = 0 := rv_word_zero false

/-- What is left of a number above its floor. -/
theorem frac_ok {x : Nat} (hx : FL.Fin x) (h1 : -p2 1023 ≤ rv x) (h2 : rv x ≤ p2 1023) : ok .sub x (floorw x) ∧ FL.Fin (fo .sub x (floorw x)) ∧ 0 ≤ rv (fo .sub x (floorw x)) ∧ rv (fo .sub x (floorw x)) ≤ 1 := by
  obtain ⟨-, hf, hv⟩ := floorw_spec hx h1 h2
  have a1 := Rat.floor_le (rv x)
  have a2 := Rat.lt_floor_add_one (rv x)
  rw [Rat.intCast_add] at a2
  have e1 : ((1 : Int) : Rat) = 1 := by rfl
  rw [e1, ← hv] at a2
  rw [← hv] at a1
  have hb := big_le
  obtain ⟨o, r, -⟩ := fo_sub hx hf (by grind) (by grind)
  have b1 := r.above 0 f0 (by rw [c0]; grind)
  have b2 := r.below 4607182418800017408 fv1 (by rw [rv1]; grind)
  rw [c0] at b1
  rw [rv1] at b2
  exact ⟨o, r.fin, b1, b2⟩

/-- A quotient by a numeral that is at least one half. -/
theorem quo_ok {x c : Nat} {d M : Rat} (hx : FL.Fin x) (hc : FL.Fin c) (e : rv c = d) (hd : d ≠ 0) (l : -M ≤ rv x / d) (u : rv x / d ≤ M) (hM : M ≤ p2 1023) :
    ok .quo x c ∧ Rnd (rv x / d) (fo .quo x c) := by
  obtain ⟨o, r, -⟩ := fo_div hx hc (by rw [e]; exact hd) (by rw [e]; grind) (by rw [e]; grind)
  rw [e] at r
  exact ⟨o, r⟩

theorem hue_chain {h n : Nat} (hh : FL.Fin h) (h1 : 0 ≤ rv h) (h2 : rv h ≤ 360) (hn : FL.Fin n) (n1 : 0 ≤ rv n) (n2 : rv n ≤ 8) : HueOK h n := by
  have hb := big_le
  have hu := u53_eq
  have hep := eta_pos
  have hel := eta_le
  obtain ⟨o1, r1⟩ := quo_ok (M := 12) hh f30 c30 (by decide +kernel) (by grind) (by grind) (by grind)
  have e1 := r1.err 12 (by grind) (by grind)
  rw [hu] at e1
  obtain ⟨o2, r2, -⟩ := fo_add r1.fin hn (by grind) (by grind)
  have e2 := r2.err 30 (by grind) (by grind)
  rw [hu] at e2
  have x2l : -1 ≤ rv (k2 h n) := by unfold k2 k1; grind
  have x2u : rv (k2 h n) ≤ 21 := by unfold k2 k1; grind
  obtain ⟨o3, r3⟩ := quo_ok (M := 2) (show FL.Fin (k2 h n) from r2.fin) f12 c12 (by decide +kernel) (by grind) (by grind) (by grind)
  have e3 := r3.err 2 (by grind) (by grind)
  rw [hu] at e3
  obtain ⟨o4, f4, l4, u4⟩ := frac_ok r3.fin (by grind) (by grind)
  obtain ⟨o5, r5, -, -⟩ := fo_mul f4 f12 (by rw [c12]; grind) (by rw [c12]; grind)
  have e5 := r5.err 12 (by rw [c12]; grind) (by rw [c12]; grind)
  rw [hu, c12] at e5
  obtain ⟨o6, r6, -⟩ := fo_sub r5.fin f3 (by rw [c3]; grind) (by rw [c3]; grind)
  have nf := neg_fin r5.fin
  have nv := neg_rv r5.fin
  obtain ⟨o7, r7, -⟩ := fo_add nf f9 (by rw [c9, nv]; grind) (by rw [c9, nv]; grind)
  exact ⟨o1, o2, o3, r3.fin, o4, o5, o6, r6.fin, o7, r7.fin⟩

theorem hue_all {h : Nat} (hh : FL.Fin h) : ok .quo h 4645040803167600640 ∧ FL.Fin (g1 h) ∧ ok .sub (g1 h) (floorw (g1 h)) ∧ ok .mul (g2 h) 4645040803167600640 ∧
    HueOK (g3 h) 0 ∧ HueOK (g3 h) 4620693217682128896 ∧ HueOK (g3 h) 4616189618054758400 := by
  have hb := big_le
  have hu := u53_eq
  have hep := eta_pos
  have hel := eta_le
  have hl := fin_le hh
  rw [p2_1024] at hl
  obtain ⟨o1, r1⟩ := quo_ok (M := p2 1023 / 100) hh f360 c360 (by decide +kernel) (by grind) (by grind) (by grind)
  have e1 := r1.err (p2 1023 / 100) (by grind) (by grind)
  rw [hu] at e1
  obtain ⟨o2, f2, l2, u2⟩ := frac_ok r1.fin (by grind) (by grind)
  obtain ⟨o3, r3, -, -⟩ := fo_mul f2 f360 (by rw [c360]; grind) (by rw [c360]; grind)
  have b1 := r3.above 0 f0 (by rw [c0, c360]; grind)
  have b2 := r3.below 4645040803167600640 f360 (by rw [c360]; grind)
  rw [c0] at b1
  rw [c360] at b2
  exact ⟨o1, r1.fin, o2, o3, hue_chain r3.fin b1 b2 f0 (by rw [c0]; grind) (by rw [c0]; grind), hue_chain r3.fin b1 b2 f8 (by rw [c8]; grind) (by rw [c8]; grind), hue_chain r3.fin b1 b2 f4 (by rw [c4]; grind) (by rw [c4]; grind)⟩

/-- 1 - L is exact for L above one half. -/
theorem one_sub_rep {l : Nat} (hl : FL.Fin l) (h1 : 1 / 2 < rv l) (h2 : rv l ≤ 1) : ∃ t, FL.Fin t ∧ rv t = 1 - rv l := by
  obtain ⟨E, K, hK, hEK, hr, hv⟩ := fin_form hl
  have hnn := mulp_nn K ((E : Int) - 1074)
  have hpos : rv l = K * p2 ((E : Int) - 1074) := by
    rcases sg_pm (l / 2 ^ 63 % 2 == 1) with hs | hs <;> rw [hs] at hv <;> grind
  have hE : 1021 ≤ E := by
    apply Classical.byContradiction
    intro hc
    have k2 : (K : Rat) < ((2 ^ 53 : Nat) : Rat) := by exact_mod_cast hK
    have a1 := Rat.mul_lt_mul_of_pos_right k2 (p2_pos ((E : Int) - 1074))
    rw [← p2_nat, ← p2_add] at a1
    have a2 : p2 (((53 : Nat) : Int) + ((E : Int) - 1074)) ≤ p2 (-1) := p2_le (by omega)
    have a3 : p2 (-1) = 1 / 2 := by unfold p2; decide +kernel
    grind
  obtain ⟨d, hd⟩ : ∃ d : Nat, (E : Int) - 1074 = (d : Int) + (-53) := ⟨E - 1021, by omega⟩
  have hval : rv l = ((K * 2 ^ d : Nat) : Rat) * p2 (-53) := by
    rw [hpos, hd, p2_add, p2_nat, Rat.natCast_mul]; grind
  generalize K * 2 ^ d = j at hval
  have p53 : ((2 ^ 53 : Nat) : Rat) * p2 (-53) = 1 := by rw [← p2_nat, ← p2_add]; exact p2_zero
  have hj : j ≤ 2 ^ 53 := by
    have : (j : Rat) * p2 (-53) ≤ ((2 ^ 53 : Nat) : Rat) * p2 (-53) := by rw [p53, ← hval]; exact h2
    exact_mod_cast Rat.le_of_mul_le_mul_right this (p2_pos _)
  have hv2 : ((2 ^ 53 - j : Nat) : Rat) * p2 (-53) = 1 - rv l := by
    have : ((2 ^ 53 - j : Nat) : Rat) + j = ((2 ^ 53 : Nat) : Rat) := by exact_mod_cast (show 2 ^ 53 - j + j = 2 ^ 53 by omega)
    grind
  have hbig := big_le
  obtain ⟨t, ht, et⟩ := rep false (2 ^ 53 - j) (-53) (by omega) (by omega) (by rw [hv2]; grind)
  exact ⟨t, ht, by rw [et, ← hv2]; simp [sg]⟩

def Q10 (r : Nat) : Prop := FL.Fin r ∧ 0 ≤ rv r ∧ rv r ≤ 1
theorem light10 {l s : Nat} (hl : FL.Fin l) (l1 : 0 ≤ rv l) (l2 : rv l ≤ 1) (hs : FL.Fin s) (s1 : 0 ≤ rv s) (s2 : rv s ≤ 1) : LightOK l s Q10 := by
  have hb := big_le
  have nf := neg_fin hl
  have nv := neg_rv hl
  obtain ⟨o1, r1, -⟩ := fo_add nf fv1 (by rw [rv1, nv]; grind) (by rw [rv1, nv]; grind)
  rw [rv1, nv] at r1
  have n1 := r1.above 0 f0 (by rw [c0]; grind)
  have n2 := r1.below 4607182418800017408 fv1 (by rw [rv1]; grind)
  rw [c0] at n1
  rw [rv1] at n2
  have key : ∀ m, MinR l (nl l) m → FL.Fin m ∧ 0 ≤ rv m ∧ rv m ≤ rv l ∧ rv m ≤ rv (nl l) := by
    intro m hm
    refine ⟨hm.fin hl r1.fin, ?_, hm.2.1, hm.2.2⟩
    rcases hm.1 with rfl | rfl
    · exact l1
    · exact n1
  have prod : ∀ m, MinR l (nl l) m → ok .mul m s ∧ FL.Fin (fo .mul m s) ∧ 0 ≤ rv (fo .mul m s) ∧ rv (fo .mul m s) ≤ rv m := by
    intro m hm
    obtain ⟨mf, m0, ml, mn⟩ := key m hm
    have p0 := Rat.mul_nonneg m0 s1
    have p1 := Rat.mul_nonneg m0 (show 0 ≤ 1 - rv s by grind)
    obtain ⟨o2, r2, -, -⟩ := fo_mul mf hs (by grind) (by grind)
    have b1 := r2.above 0 f0 (by rw [c0]; exact p0)
    have b2 := r2.below m mf (by grind)
    rw [c0] at b1
    exact ⟨o2, r2.fin, b1, b2⟩
  refine ⟨hl, o1, r1.fin, fun m hm => (prod m hm).1, ?_⟩
  intro m x hm hx x1 x2
  obtain ⟨-, -, ml, mn⟩ := key m hm
  obtain ⟨-, af, a0, am⟩ := prod m hm
  generalize fo .mul m s = a at *
  have xa := mul_abs x1 x2 (show -(rv a) ≤ rv a by grind) (show rv a ≤ rv a by grind)
  have anf := neg_fin af
  have anv := neg_rv af
  obtain ⟨o3, r3, -, -⟩ := fo_mul hx af (by grind) (by grind)
  have c1 := r3.above (a ^^^ 2 ^ 63) anf (by rw [anv]; grind)
  have c2 := r3.below a af (by grind)
  rw [anv] at c1
  generalize fo .mul x a = y at *
  obtain ⟨o4, r4, -⟩ := fo_sub hl r3.fin (by grind) (by grind)
  have d1 := r4.above 0 f0 (by rw [c0]; grind)
  rw [c0] at d1
  have hle : rv l - rv y ≤ 1 := by
    by_cases hh : 1 / 2 < rv l
    · obtain ⟨t, ht, et⟩ := one_sub_rep hl hh l2
      have e := r1.exact ht (by rw [et]; grind)
      have : rv (nl l) = 1 - rv l := by show rv (fo .add (l ^^^ 2 ^ 63) 4607182418800017408) = _; rw [e]; grind
      grind
    · grind
  have d2 := r4.below 4607182418800017408 fv1 (by rw [rv1]; exact hle)
  rw [rv1] at d2
  exact ⟨o3, o4, r4.fin, d1, d2⟩
end Go.Proofs.Ytcmkehkgnnmofaa.F64
