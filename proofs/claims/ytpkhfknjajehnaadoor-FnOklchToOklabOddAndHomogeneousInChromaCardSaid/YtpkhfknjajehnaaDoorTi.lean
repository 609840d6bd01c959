/- Plain numerics for FnOklchToOklabOddAndHomogeneousInChroma, and the law's small functions. -/
import Derived.Test.YtpkhfknjajehnaaDoorTh
import Derived.Test.YtpkhfknjajehnaaDoorLin
namespace Go.Proofs.YtpkhfknjajehnaaDoor.F64
open Go Go.RowKit Go.Lib Go.Proofs.YtpkhfknjajehnaaDoor.FL
set_option linter.unusedVariables false
theorem word_ext {a b : Nat} (ha : a < 2 ^ 64) (hb : b < 2 ^ 64) (h1 : a % 2 ^ 63 = b % 2 ^ 63) (h2 : (a / 2 ^ 63 % 2 == 1) = (b / 2 ^ 63 % 2 == 1)) : a = b := by
  have h3 : a / 2 ^ 63 % 2 = b / 2 ^ 63 % 2 := by
    by_cases h : a / 2 ^ 63 % 2 = 1
    · have : (a / 2 ^ 63 % 2 == 1) = true := by simpa using h
      rw [this] at h2
      have : b / 2 ^ 63 % 2 = 1 := by simpa using h2.symm
      omega
    · have : (a / 2 ^ 63 % 2 == 1) = false := by simpa using h
      rw [this] at h2
      have : ¬ b / 2 ^ 63 % 2 = 1 := by simpa using h2.symm
      omega
  omega
theorem word_neg (s : Bool) (r : Nat) (h : r < 2 ^ 63) : Ieee.double.word (!s) r = Ieee.double.word s r ^^^ 2 ^ 63 := by
  apply word_ext (word_lt _ _ h) (neg_lt (word_lt _ _ h))
  · rw [xor_mod, word_mod _ _ h, word_mod _ _ h]
  · rw [xor_sign, word_sign _ _ h, word_sign _ _ h]
theorem nearest_neg (s : Bool) (m : Nat) (p : Int) : Ieee.double.nearest (!s) m p = Ieee.double.nearest s m p ^^^ 2 ^ 63 := by
  have := nrung_le m p
  rw [nearest_rung, nearest_rung, word_neg _ _ (by omega)]
theorem read_neg (y : Nat) : Ieee.double.read (y ^^^ 2 ^ 63) = match Ieee.double.read y with
    | .number s m p => .number (!s) m p
    | .infinity s => .infinity (!s)
    | .nan s t => .nan (!s) t := by
  have e1 := xor_mod y
  have e2 := xor_sign y
  by_cases h1 : y % 2 ^ 63 < 2 ^ 52
  · rw [read_sub h1, read_sub (by rw [e1]; exact h1), e1, e2]
  by_cases h2 : y % 2 ^ 63 < 2047 * 2 ^ 52
  · rw [read_nor h1 h2, read_nor (by rw [e1]; exact h1) (by rw [e1]; exact h2), e1, e2]
  by_cases h3 : y % 2 ^ 63 = 2047 * 2 ^ 52
  · rw [read_inf h3, read_inf (by rw [e1]; exact h3), e2]
  · rw [read_nan (w := y) (by omega), read_nan (by rw [e1]; omega), e1, e2]
theorem bx (s t : Bool) : (s ^^ !t) = !(s ^^ t) := by cases s <;> cases t <;> rfl
theorem mulneg (x y : Nat) : floatBits .mul .f64 x (Op.negFloat .f64 y) = (floatBits .mul .f64 x y).map (Op.negFloat .f64) := by
  show Ieee.double.mul x (y ^^^ 2 ^ 63) = (Ieee.double.mul x y).map (fun z => z ^^^ 2 ^ 63)
  unfold Ieee.Format.mul
  rw [read_neg]
  rcases hx : Ieee.double.read x with ⟨s, m, i⟩ | s | ⟨s, a⟩ <;> rcases hy : Ieee.double.read y with ⟨t, n, j⟩ | t | ⟨t, b⟩
  · show some (Ieee.double.nearest (s ^^ !t) (m * n) (i + j)) = some (Ieee.double.nearest (s ^^ t) (m * n) (i + j) ^^^ 2 ^ 63)
    rw [bx, nearest_neg]
  · show (if m = 0 then none else some (Ieee.Datum.infinity (!t ^^ s))).map Ieee.double.write = ((if m = 0 then none else some (Ieee.Datum.infinity (t ^^ s))).map Ieee.double.write).map _
    split
    · rfl
    · show some (Ieee.double.word (!t ^^ s) _) = some (Ieee.double.word (t ^^ s) _ ^^^ 2 ^ 63)
      rw [show (!t ^^ s) = !(t ^^ s) by cases s <;> cases t <;> rfl, word_neg _ _ (by decide)]
  · rfl
  · show (if n = 0 then none else some (Ieee.Datum.infinity (s ^^ !t))).map Ieee.double.write = ((if n = 0 then none else some (Ieee.Datum.infinity (s ^^ t))).map Ieee.double.write).map _
    split
    · rfl
    · show some (Ieee.double.word (s ^^ !t) _) = some (Ieee.double.word (s ^^ t) _ ^^^ 2 ^ 63)
      rw [bx, word_neg _ _ (by decide)]
  · show some (Ieee.double.word (s ^^ !t) _) = some (Ieee.double.word (s ^^ t) _ ^^^ 2 ^ 63)
    rw [bx, word_neg _ _ (by decide)]
  · rfl
  · rfl
  · rfl
  · rfl
theorem nan_neg {y : Nat} (h : IsNaN y) : IsNaN (Op.negFloat .f64 y) := by
  show 2047 * 2 ^ 52 < (y ^^^ 2 ^ 63) % 2 ^ 63
  rw [xor_mod]; exact h
/-- A product with the opposite. -/
theorem fop_neg (x y : Nat) : Eqv (fop .mul x (Op.negFloat .f64 y)) (Op.negFloat .f64 (fop .mul x y)) := by
  unfold fop
  rw [mulneg]
  cases floatBits .mul .f64 x y with
  | none => exact .inr ⟨nq_nan, nan_neg nq_nan⟩
  | some z => exact .inl rfl
/-- A finite number is the nearest word of its own value. -/
theorem nearest_id {c : Nat} (hf : FL.Fin c) (hc : c < 2 ^ 64) {m : Nat} {p : Int} (e : Ieee.double.read c = .number (c / 2 ^ 63 % 2 == 1) m p) : Ieee.double.nearest (c / 2 ^ 63 % 2 == 1) m p = c := by
  obtain ⟨E, K, hK, hE, hw, hv⟩ := fin_form hf
  have hlt : E * 2 ^ 52 + K < 2047 * 2 ^ 52 := by unfold FL.Fin at hf; omega
  have hv2 := rv_read e
  generalize hs : (c / 2 ^ 63 % 2 == 1) = s at *
  have hmk : (m : Rat) * p2 p = K * p2 ((E : Int) - 1074) := by
    rw [hv] at hv2
    rcases sg_pm s with h | h <;> rw [h] at hv2 <;> grind
  rw [nearest_value s m K p _ hmk]
  have main : Ieee.double.nearest s K ((E : Int) - 1074) = Ieee.double.word s (E * 2 ^ 52 + K) := by
    by_cases h0 : K = 0
    · have hE0 : E = 0 := by omega
      subst h0; subst hE0
      rw [nearest_zero]
    · obtain ⟨E', K', hK', hEK', hw', n1, n2, nd, nu⟩ := nearest_spec s K ((E : Int) - 1074) h0
      have pl := p2_pos ((E : Int) - 1074)
      have hKr : (K : Rat) < ((2 ^ 53 : Nat) : Rat) := by exact_mod_cast hK
      have hup : (K : Rat) * p2 ((E : Int) - 1074) < p2 ((E : Int) - 1021) := by
        have := Rat.mul_lt_mul_of_pos_right hKr pl
        rw [← p2_nat, ← p2_add, show ((53 : Nat) : Int) + ((E : Int) - 1074) = (E : Int) - 1021 by omega] at this
        exact this
      have hEE : E' = E := by
        rcases Nat.lt_trichotomy E' E with h | h | h
        · exfalso
          have hKl : ((2 ^ 52 : Nat) : Rat) ≤ (K : Rat) := by exact_mod_cast (show 2 ^ 52 ≤ K by omega)
          have := Rat.mul_le_mul_of_nonneg_right hKl (Rat.le_of_lt pl)
          rw [← p2_nat, ← p2_add, show ((52 : Nat) : Int) + ((E : Int) - 1074) = (E : Int) - 1022 by omega] at this
          have := p2_le (show (E' : Int) - 1021 ≤ (E : Int) - 1022 by omega)
          grind
        · exact h
        · exfalso
          rcases nd with nd | nd
          · omega
          · have := p2_le (show (E : Int) - 1021 ≤ (E' : Int) - 1022 by omega)
            grind
      subst hEE
      have hKK : K' = K := by
        have h3 : (2 * K' : Rat) * p2 ((E' : Int) - 1074) ≤ (2 * K + 1) * p2 ((E' : Int) - 1074) := by grind
        have h4 := Rat.le_of_mul_le_mul_right h3 pl
        have h5 : 2 * K' ≤ 2 * K + 1 := by exact_mod_cast h4
        have h6 : (2 * K : Rat) * p2 ((E' : Int) - 1074) ≤ (2 * K' + 1) * p2 ((E' : Int) - 1074) := by grind
        have h7 := Rat.le_of_mul_le_mul_right h6 pl
        have h8 : 2 * K ≤ 2 * K' + 1 := by exact_mod_cast h7
        omega
      subst hKK
      rw [hw', Nat.min_eq_left (by omega)]
  rw [main, ← hw]
  apply word_ext (word_lt _ _ (Nat.mod_lt _ (by decide))) hc
  · rw [word_mod _ _ (Nat.mod_lt _ (by decide))]
  · rw [word_sign _ _ (Nat.mod_lt _ (by decide)), hs]
/-- One times a finite number. -/
theorem one_mul {u c : Nat} (hu : FL.Fin u) (h1 : rv u = 1) (hf : FL.Fin c) (hc : c < 2 ^ 64) : floatBits .mul .f64 u c = some c := by
  obtain ⟨m, i, ex⟩ := read_fin hu
  obtain ⟨n, j, ey⟩ := read_fin hf
  have hid := nearest_id hf hc ey
  have hv := rv_read ex
  have hs : (u / 2 ^ 63 % 2 == 1) = false := by
    cases hh : (u / 2 ^ 63 % 2 == 1)
    · rfl
    · rw [hh] at hv
      have := mulp_nn m i
      simp only [sg, if_true] at hv
      grind
  rw [hs] at ex hv
  have hm : (m : Rat) * p2 i = 1 := by simp only [sg, Bool.false_eq_true, if_false] at hv; grind
  show Ieee.double.mul u c = some c
  unfold Ieee.Format.mul
  rw [ex, ey]
  show some (Ieee.double.nearest (false ^^ (c / 2 ^ 63 % 2 == 1)) (m * n) (i + j)) = some c
  rw [Bool.false_xor, nearest_value _ (m * n) n (i + j) j (by rw [Rat.natCast_mul, p2_add]; grind), hid]
theorem ord_self {x : Nat} (h : ¬ IsNaN x) : (FloatKind.f64.format.order x x == some .eq) = true := by
  by_cases hf : FL.Fin x
  · have := ord_nan hf
    cases hh : (FloatKind.f64.format.order x x == some .eq)
    · rw [bne, hh] at this; cases this
    · rfl
  · have hi := read_inf (inf_of h hf)
    show (Ieee.double.order x x == some .eq) = true
    unfold Ieee.Format.order
    rw [hi]
    cases (x / 2 ^ 63 % 2 == 1) <;> rfl
/-- zzSame at two words that are the same up to NaNs. -/
theorem same (x y : Nat) (w : World) (h : Eqv x y) : Calls Tryd.prog 5 #[.float .f64 x, .float .f64 y] w fun e w' => e = .returned (.bool true) ∧ w = w' := by
  by_cases hn : IsNaN x
  · have hy : IsNaN y := by
      rcases h with rfl | h
      · exact hn
      · exact h.2
    have o1 : (FloatKind.f64.format.order x y == some .eq) = false := by rw [ord_isnan hn]; rfl
    have o2 : (FloatKind.f64.format.order x x != some .eq) = true := by rw [ord_isnan hn]; rfl
    have o3 : (FloatKind.f64.format.order y y != some .eq) = true := by rw [ord_isnan hy]; rfl
    clear hn hy h
    go_enter Tryd.func5, Tryd.ntmps5
    go_wp2
    go_ret
    exact ⟨rfl, rfl⟩
  · have hy : x = y := h.resolve_right fun k => hn k.1
    subst hy
    have o1 := ord_self hn
    clear hn h
    go_enter Tryd.func5, Tryd.ntmps5
    go_wp2
    go_ret
    exact ⟨rfl, rfl⟩
def absAny (x : Nat) : Nat := if (Ieee.double.order x 0 == some .lt) = true then Op.negFloat .f64 x else x
theorem zzAbsAny (x : Nat) (w : World) : Calls Tryd.prog 7 #[.float .f64 x] w fun e w' => e = .returned (.float .f64 (absAny x)) ∧ w = w' := by
  cases hn : (Ieee.double.order x 0 == some .lt)
  · have o1 : (FloatKind.f64.format.order x 0 == some .lt) = false := hn
    have HA := Lib.hid (show absAny x = x by unfold absAny; rw [if_neg (by rw [hn]; simp)])
    clear hn
    go_enter Tryd.func7, Tryd.ntmps7
    go_wp2
    go_ret
    exact ⟨by rw [HA.out]; rfl, rfl⟩
  · have o1 : (FloatKind.f64.format.order x 0 == some .lt) = true := hn
    have HA := Lib.hid (show absAny x = Op.negFloat .f64 x by unfold absAny; rw [if_pos hn])
    clear hn
    go_enter Tryd.func7, Tryd.ntmps7
    go_wp2
    go_ret
    exact ⟨by rw [HA.out]; rfl, rfl⟩
def geB (x y : Nat) : Bool := (FloatKind.f64.format.order x y == some .gt || FloatKind.f64.format.order x y == some .eq)
def leB (x y : Nat) : Bool := (FloatKind.f64.format.order x y == some .lt || FloatKind.f64.format.order x y == some .eq)
theorem zzFin (x : Nat) (w : World) : Calls Tryd.prog 6 #[.float .f64 x] w fun e w' => e = .returned (.bool (geB x 18442240474082181119 && leB x 9218868437227405311)) ∧ w = w' := by
  cases hn : geB x 18442240474082181119
  · have o1 : (FloatKind.f64.format.order x 18442240474082181119 == some .gt || FloatKind.f64.format.order x 18442240474082181119 == some .eq) = false := hn
    clear hn
    go_enter Tryd.func6, Tryd.ntmps6
    go_wp2
    go_ret
    exact ⟨rfl, rfl⟩
  · have o1 : (FloatKind.f64.format.order x 18442240474082181119 == some .gt || FloatKind.f64.format.order x 18442240474082181119 == some .eq) = true := hn
    have HA := Lib.hid (show (true && leB x 9218868437227405311) = (FloatKind.f64.format.order x 9218868437227405311 == some .lt || FloatKind.f64.format.order x 9218868437227405311 == some .eq) by rw [Bool.true_and]; rfl)
    clear hn
    go_enter Tryd.func6, Tryd.ntmps6
    go_wp2
    go_ret
    exact ⟨by rw [HA.out]; rfl, rfl⟩
theorem fin_of_abs {x : Nat} (h : FL.Fin (absAny x)) : FL.Fin x ∧ (rv (absAny x) = rv x ∨ rv (absAny x) = - rv x) := by
  by_cases hn : (Ieee.double.order x 0 == some .lt) = true
  · have e : absAny x = x ^^^ 2 ^ 63 := by unfold absAny; rw [if_pos hn]; rfl
    have hx : FL.Fin x := by unfold FL.Fin at h ⊢; rw [e, xor_mod] at h; exact h
    exact ⟨hx, .inr (by rw [e, neg_rv hx])⟩
  · have e : absAny x = x := by unfold absAny; rw [if_neg hn]
    rw [e] at h ⊢
    exact ⟨h, .inl rfl⟩
theorem abs_finite {x : Nat} (h : FL.Fin x) : FL.Fin (absAny x) := by
  by_cases hn : (Ieee.double.order x 0 == some .lt) = true
  · have e : absAny x = x ^^^ 2 ^ 63 := by unfold absAny; rw [if_pos hn]; rfl
    rw [e]; exact neg_fin h
  · have e : absAny x = x := by unfold absAny; rw [if_neg hn]
    rw [e]; exact h
theorem fin_zero {x : Nat} (h1 : (FloatKind.f64.format.order x 0 == some .eq) = true) : FL.Fin x ∧ rv x = 0 := by
  have h1 : (Ieee.double.order x 0 == some .eq) = true := h1
  have hx : FL.Fin x := fin_between fZ fZ (by rw [h1]; simp) (by rw [h1]; simp)
  rw [eq_iff hx fZ, vZ] at h1
  exact ⟨hx, by simpa using h1⟩
theorem fMin : FL.Fin 18442240474082181119 := by unfold FL.Fin; decide
theorem fin_of {c : Nat} (h : (geB c 18442240474082181119 && leB c 9218868437227405311) = true) : FL.Fin c := by
  obtain ⟨h1, h2⟩ := Bool.and_eq_true_iff.1 h
  exact fin_between fMin fMax h1 h2
theorem flo : FL.Fin 1614679632300144556 := by unfold FL.Fin; decide
theorem fhi : FL.Fin 9094988921128908188 := by unfold FL.Fin; decide
theorem vlo : p2 (-665) ≤ rv 1614679632300144556 := by unfold p2; decide +kernel
theorem vhi : rv 9094988921128908188 ≤ (10 : Rat) ^ 301 := by decide +kernel
theorem chr_of {c : Nat} (h1 : geB (absAny c) 1614679632300144556 = true) (h2 : leB (absAny c) 9094988921128908188 = true) : Chr c (-665) := by
  have fa : FL.Fin (absAny c) := fin_between flo fhi h1 h2
  have k1 : rv 1614679632300144556 ≤ rv (absAny c) := by simpa using (ge_iff fa flo).symm.trans h1
  have k2 : rv (absAny c) ≤ rv 9094988921128908188 := by simpa using (le_iff fa fhi).symm.trans h2
  have a1 := vlo
  have a2 := vhi
  have a3 := p2_pos (-665)
  have := ten_pos
  obtain ⟨f, e | e⟩ := fin_of_abs fa
  · exact ⟨f, by grind, by grind, .inr (.inl (by grind))⟩
  · exact ⟨f, by grind, by grind, .inr (.inr (by grind))⟩
def Hue (h : Nat) : Prop := FL.Fin h ∧ -1000000 ≤ rv h ∧ rv h ≤ 1000000 ∧ (rv h = 0 ∨ p2 (-300) ≤ rv h ∨ rv h ≤ -p2 (-300))
theorem fh1 : FL.Fin 13920209183539462144 := by unfold FL.Fin; decide
theorem fh2 : FL.Fin 4696837146684686336 := by unfold FL.Fin; decide
theorem vh1 : rv 13920209183539462144 = -1000000 := by decide +kernel
theorem vh2 : rv 4696837146684686336 = 1000000 := by decide +kernel
theorem fty : FL.Fin 3260689527820848751 := by unfold FL.Fin; decide
theorem vty : p2 (-300) ≤ rv 3260689527820848751 := by unfold p2; decide +kernel
theorem hue_in {h : Nat} (h1 : geB h 13920209183539462144 = true) (h2 : leB h 4696837146684686336 = true) : FL.Fin h ∧ -1000000 ≤ rv h ∧ rv h ≤ 1000000 := by
  have fa : FL.Fin h := fin_between fh1 fh2 h1 h2
  have k1 : rv 13920209183539462144 ≤ rv h := by simpa using (ge_iff fa fh1).symm.trans h1
  have k2 : rv h ≤ rv 4696837146684686336 := by simpa using (le_iff fa fh2).symm.trans h2
  rw [vh1] at k1
  rw [vh2] at k2
  exact ⟨fa, k1, k2⟩
theorem hue_zero {h : Nat} (h0 : (FloatKind.f64.format.order h 0 == some .eq) = true) : Hue h := by
  obtain ⟨f, e⟩ := fin_zero h0
  exact ⟨f, by grind, by grind, .inl e⟩
theorem hue_of {h : Nat} (h1 : geB h 13920209183539462144 = true) (h2 : leB h 4696837146684686336 = true) (h0 : geB (absAny h) 3260689527820848751 = true) : Hue h := by
  obtain ⟨f, a, b⟩ := hue_in h1 h2
  have fa := abs_finite f
  have k : rv 3260689527820848751 ≤ rv (absAny h) := by simpa using (ge_iff fa fty).symm.trans h0
  have := vty
  refine ⟨f, a, b, ?_⟩
  rcases (fin_of_abs fa).2 with e | e
  · right; left; grind
  · right; right; grind
def wDeg : Nat := 4580687790476533049
theorem fDeg : FL.Fin wDeg := by unfold FL.Fin wDeg; decide
theorem vDeg1 : p2 (-6) ≤ rv wDeg := by unfold p2; decide +kernel
theorem vDeg2 : rv wDeg ≤ 18 / 1000 := by decide +kernel
theorem hue_mod {h : Nat} (hh : Hue h) : Mod (-310) (fop .mul h 4580687790476533049) ∧ (rv h = 0 → rv (fop .mul h 4580687790476533049) = 0) := by
  obtain ⟨f, a, b, c⟩ := hh
  have k1 := vDeg1
  have k2 := vDeg2
  have pk := p2_pos (-6)
  have bg := big_le
  obtain ⟨m1, m2⟩ := mul_abs (X := 1000000) (E := 18 / 1000) a b (show -(18 / 1000) ≤ rv wDeg by grind) k2
  obtain ⟨t, ht, r, -, -⟩ := mul_rnd f fDeg (by grind) (by grind)
  have et : fop .mul h 4580687790476533049 = t := fop_some ht
  rw [et]
  have e := r.err 18000 (by grind) (by grind)
  have el := eta_le
  rw [u53_eq] at e
  refine ⟨⟨r.lt, r.fin, by grind, by grind, ?_⟩, fun c => r.zero (by rw [c, Rat.zero_mul])⟩
  rcases c with c | c
  · left; exact r.zero (by rw [c, Rat.zero_mul])
  · right
    obtain ⟨H, hH, eH⟩ := pm_of c (p2_pos _)
    have h1 : p2 (-300) * p2 (-6) ≤ H * rv wDeg := by
      have a1 := Rat.mul_le_mul_of_nonneg_right hH (Rat.le_of_lt pk)
      have a2 := Rat.mul_le_mul_of_nonneg_left k1 (show (0 : Rat) ≤ H by have := p2_pos (-300); grind)
      grind
    rw [← p2_add] at h1
    have e4 : p2 (-300 + -6) = 16 * p2 (-310) := by
      rw [show (-300 + -6 : Int) = 4 + -310 by decide, p2_add, show p2 4 = 16 by unfold p2; decide +kernel]
    have p1 := p2_pos (-310)
    have es : eta ≤ p2 (-310) := p2_le (by decide)
    have hv : rv h * rv wDeg = H * rv wDeg ∨ rv h * rv wDeg = -(H * rv wDeg) := by rcases eH with e | e <;> rw [e] <;> grind
    have e2 := r.err (H * rv wDeg) (by rcases hv with h | h <;> grind) (by rcases hv with h | h <;> grind)
    rw [u53_eq] at e2
    rcases hv with h | h
    · left; grind
    · right; grind
theorem nearest_lt (s : Bool) (m : Nat) (p : Int) : Ieee.double.nearest s m p < 2 ^ 64 := by
  have := nrung_le m p
  rw [nearest_rung]; exact word_lt _ _ (by omega)
theorem mul_lt (x y : Nat) : fop .mul x y < 2 ^ 64 := by
  unfold fop
  show (Ieee.double.mul x y).getD NQ < 2 ^ 64
  unfold Ieee.Format.mul
  rcases hx : Ieee.double.read x with ⟨s, m, i⟩ | s | ⟨s, a⟩ <;> rcases hy : Ieee.double.read y with ⟨t, n, j⟩ | t | ⟨t, b⟩
  · exact nearest_lt _ _ _
  · show ((if m = 0 then none else some (Ieee.Datum.infinity (t ^^ s))).map Ieee.double.write).getD NQ < _
    split
    · decide
    · exact word_lt _ _ (by decide)
  · show NQ < 2 ^ 64
    decide
  · show ((if n = 0 then none else some (Ieee.Datum.infinity (s ^^ t))).map Ieee.double.write).getD NQ < _
    split
    · decide
    · exact word_lt _ _ (by decide)
  · exact word_lt _ _ (by decide)
  · show NQ < 2 ^ 64
    decide
  · show NQ < 2 ^ 64
    decide
  · show NQ < 2 ^ 64
    decide
  · show NQ < 2 ^ 64
    decide
/-- The products are numbers. -/
def Good (u v c : Nat) : Prop := ¬ IsNaN (fop .mul u c) ∧ ¬ IsNaN (fop .mul v c)
theorem not_nan {x : Nat} (h : FL.Fin x) : ¬ IsNaN x := by unfold IsNaN; unfold FL.Fin at h; omega
theorem good_neg {u v c : Nat} (h : Good u v c) : Good u v (Op.negFloat .f64 c) := by
  have key : ∀ x, ¬ IsNaN (fop .mul x c) → ¬ IsNaN (fop .mul x (Op.negFloat .f64 c)) := by
    intro x hx hn
    rcases fop_neg x c with e | e
    · rw [e] at hn
      exact hx (by have : 2047 * 2 ^ 52 < (fop .mul x c ^^^ 2 ^ 63) % 2 ^ 63 := hn; rw [xor_mod] at this; exact this)
    · exact hx (by have : 2047 * 2 ^ 52 < (fop .mul x c ^^^ 2 ^ 63) % 2 ^ 63 := e.2; rw [xor_mod] at this; exact this)
  exact ⟨key u h.1, key v h.2⟩
end Go.Proofs.YtpkhfknjajehnaaDoor.F64
