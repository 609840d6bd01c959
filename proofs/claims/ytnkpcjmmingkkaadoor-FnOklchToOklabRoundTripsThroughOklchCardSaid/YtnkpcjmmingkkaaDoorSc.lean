/- math.sin and math.cos together: the octant, the rest, and what they miss. -/
import Derived.Test.YtnkpcjmmingkkaaDoorRq
import Derived.Test.YtnkpcjmmingkkaaDoorAt
import Derived.Test.YtnkpcjmmingkkaaDoorA2
namespace Go.Proofs.YtnkpcjmmingkkaaDoor.F64
open Go Go.RowKit Go.Lib Go.Proofs.YtnkpcjmmingkkaaDoor.FL
set_option linter.unusedVariables false
def cosY (o : Int) (z : Rat) : Rat := if o = 0 then PL.Cv z else if o = 2 then -PL.Sv z else if o = 4 then -PL.Cv z else PL.Sv z
def sinY (o : Int) (z : Rat) : Rat := if o = 0 then PL.Sv z else if o = 2 then PL.Cv z else if o = 4 then -PL.Sv z else -PL.Cv z
theorem sign_bit2 {x : Nat} (f : FL.Fin x) (h : x / 2 ^ 63 % 2 = 1) : rv x ≤ 0 := by
  obtain ⟨E, K, hK, hE, hw, hv⟩ := fin_form f
  have n := mulp_nn K ((E : Int) - 1074)
  rw [h] at hv
  rw [hv]
  simp only [sg, show (1 == 1) = true from rfl, if_true]
  grind
theorem cos_ap {o : Int} {z : Nat} (ho : o = 0 ∨ o = 2 ∨ o = 4 ∨ o = 6) (f : FL.Fin z) (h1 : -(7855 / 10000) ≤ rv z) (h2 : rv z ≤ 7855 / 10000) : FL.Fin (cosO o z) ∧ -(1 / 1000000000000000) ≤ rv (cosO o z) - cosY o (rv z) ∧ rv (cosO o z) - cosY o (rv z) ≤ 1 / 1000000000000000 := by
  have s := sinT_ap f (by grind) (by grind)
  have c := cosT_ap f (by grind) (by grind)
  have ns : rv (neg (sinT z)) = -rv (sinT z) := neg_rv s.fin
  have nc : rv (neg (cosT z)) = -rv (cosT z) := neg_rv c.fin
  have s1 := s.e1
  have s2 := s.e2
  have c1 := c.e1
  have c2 := c.e2
  rcases ho with rfl | rfl | rfl | rfl
  · exact ⟨c.fin, c1, c2⟩
  · have e : cosY 2 (rv z) = -PL.Sv (rv z) := rfl
    have e2 : cosO 2 z = neg (sinT z) := rfl
    rw [e, e2, ns]
    exact ⟨neg_fin s.fin, by grind, by grind⟩
  · have e : cosY 4 (rv z) = -PL.Cv (rv z) := rfl
    have e2 : cosO 4 z = neg (cosT z) := rfl
    rw [e, e2, nc]
    exact ⟨neg_fin c.fin, by grind, by grind⟩
  · exact ⟨s.fin, s1, s2⟩
theorem sin_ap {o : Int} {z : Nat} (ho : o = 0 ∨ o = 2 ∨ o = 4 ∨ o = 6) (f : FL.Fin z) (h1 : -(7855 / 10000) ≤ rv z) (h2 : rv z ≤ 7855 / 10000) : FL.Fin (sinO false o z) ∧ -(1 / 1000000000000000) ≤ rv (sinO false o z) - sinY o (rv z) ∧ rv (sinO false o z) - sinY o (rv z) ≤ 1 / 1000000000000000 := by
  have s := sinT_ap f (by grind) (by grind)
  have c := cosT_ap f (by grind) (by grind)
  have ns : rv (neg (sinT z)) = -rv (sinT z) := neg_rv s.fin
  have nc : rv (neg (cosT z)) = -rv (cosT z) := neg_rv c.fin
  have s1 := s.e1
  have s2 := s.e2
  have c1 := c.e1
  have c2 := c.e2
  rcases ho with rfl | rfl | rfl | rfl
  · exact ⟨s.fin, s1, s2⟩
  · exact ⟨c.fin, c1, c2⟩
  · have e : sinY 4 (rv z) = -PL.Sv (rv z) := rfl
    have e2 : sinO false 4 z = neg (sinT z) := rfl
    rw [e, e2, ns]
    exact ⟨neg_fin s.fin, by grind, by grind⟩
  · have e : sinY 6 (rv z) = -PL.Cv (rv z) := rfl
    have e2 : sinO false 6 z = neg (cosT z) := rfl
    rw [e, e2, nc]
    exact ⟨neg_fin c.fin, by grind, by grind⟩
theorem neg_neg_w (x : Nat) : neg (neg x) = x := by
  show (x ^^^ 2 ^ 63) ^^^ 2 ^ 63 = x
  rw [Nat.xor_assoc, Nat.xor_self, Nat.xor_zero]
theorem sinO_true {o : Int} (ho : o = 0 ∨ o = 2 ∨ o = 4 ∨ o = 6) (z : Nat) : sinO true o z = neg (sinO false o z) := by
  rcases ho with rfl | rfl | rfl | rfl
  · rfl
  · rfl
  · show sinT z = neg (neg (sinT z)); rw [neg_neg_w]
  · show cosT z = neg (neg (cosT z)); rw [neg_neg_w]
theorem cosY_neg {o : Int} (ho : o = 0 ∨ o = 2 ∨ o = 4 ∨ o = 6) (z : Rat) : cosY ((-o) % 8) (-z) = cosY o z := by
  rcases ho with rfl | rfl | rfl | rfl
  · exact PL.Cv_neg z
  · show PL.Sv (-z) = -PL.Sv z; exact PL.Sv_neg z
  · show -PL.Cv (-z) = -PL.Cv z; rw [PL.Cv_neg]
  · show -PL.Sv (-z) = PL.Sv z; rw [PL.Sv_neg]; grind
theorem sinY_neg {o : Int} (ho : o = 0 ∨ o = 2 ∨ o = 4 ∨ o = 6) (z : Rat) : sinY ((-o) % 8) (-z) = -sinY o z := by
  rcases ho with rfl | rfl | rfl | rfl
  · exact PL.Sv_neg z
  · show -PL.Cv (-z) = -PL.Cv z; rw [PL.Cv_neg]
  · show -PL.Sv (-z) = - -PL.Sv z; rw [PL.Sv_neg]
  · show PL.Cv (-z) = - -PL.Cv z; rw [PL.Cv_neg]; grind
theorem cosY_bd {o : Int} (z : Rat) (h1 : -(8 / 10) ≤ z) (h2 : z ≤ 8 / 10) : -(3 / 2) ≤ cosY o z ∧ cosY o z ≤ 3 / 2 := by
  have s := PL.Sv_bd h1 h2
  have c := PL.Cv_bd h1 h2
  unfold cosY
  split
  · exact c
  · split
    · constructor <;> grind
    · split <;> constructor <;> grind
theorem sinY_bd {o : Int} (z : Rat) (h1 : -(8 / 10) ≤ z) (h2 : z ≤ 8 / 10) : -(3 / 2) ≤ sinY o z ∧ sinY o z ≤ 3 / 2 := by
  have s := PL.Sv_bd h1 h2
  have c := PL.Cv_bd h1 h2
  unfold sinY
  split
  · constructor <;> grind
  · split
    · exact c
    · split <;> constructor <;> grind
theorem fin_nan {v : Nat} (h : FL.Fin v) : ¬ IsNaN v := by unfold IsNaN; unfold FL.Fin at h; omega
/-- Sine and cosine of a word x: the octant Y, the rest z, the words c and s. -/
structure Circ (x : Nat) (Y : Int) (z : Rat) (c s : Nat) : Prop where
  even : Y % 2 = 0
  z1 : -(78541 / 100000) ≤ z
  z2 : z ≤ 78541 / 100000
  r1 : -(1 / 10000000000000) ≤ z - (rv x - (Y : Rat) * PL.p4)
  r2 : z - (rv x - (Y : Rat) * PL.p4) ≤ 1 / 10000000000000
  fc : FL.Fin c
  fs : FL.Fin s
  c1 : -(1 / 100000000000000) ≤ rv c - cosY (Y % 8) z
  c2 : rv c - cosY (Y % 8) z ≤ 1 / 100000000000000
  s1 : -(1 / 100000000000000) ≤ rv s - sinY (Y % 8) z
  s2 : rv s - sinY (Y % 8) z ≤ 1 / 100000000000000
theorem oct {Y : Int} (h : Y % 2 = 0) : Y % 8 = 0 ∨ Y % 8 = 2 ∨ Y % 8 = 4 ∨ Y % 8 = 6 := by omega
theorem sincos (x : Nat) (lx : x < 2 ^ 64) (hf : FL.Fin x) (b1 : -256 ≤ rv x) (b2 : rv x ≤ 256) : ∃ (Y : Int) (z : Rat) (c s : Nat), Circ x Y z c s ∧
    (∀ w, SC w → Calls Tryd.prog 28 #[.float .f64 x] w (VP c w)) ∧ (∀ w, SC w → Calls Tryd.prog 30 #[.float .f64 x] w (VP s w)) := by
  obtain ⟨fa, a0, ar⟩ := abs_rv hf
  have al : rv (x % 2 ^ 63) ≤ 256 := by rcases ar with e | e <;> grind
  obtain ⟨Y, z, hr, fz, Y0, he, e1, e2, zb1, zb2⟩ := red_acc (x % 2 ^ 63) fa a0 al
  have ho := oct he
  have ca := cos_ap ho fz (by grind) (by grind)
  have sa := sin_ap ho fz (by grind) (by grind)
  have HC : ∀ w, SC w → Calls Tryd.prog 28 #[.float .f64 x] w (VP (cosO (Y % 8) z) w) := fun w hT => by
    refine (cosM x (x % 2 ^ 63) z (Y % 8) w hT (ord_nan hf) (fun W => isInfE x W lx hf) (fun W => absF x W lx) (thr_no fa (by grind)) hr).mono ?_
    rintro e w' ⟨u, k, rfl, hu, rfl⟩
    rw [hu.eq (fin_nan ca.1)]
    exact ⟨rfl, below_dn w k⟩
  -- the sine, by the argument's sign
  by_cases x0 : rv x = 0
  · have hx : rv (x % 2 ^ 63) = 0 := by rcases ar with e | e <;> grind
    have HS : ∀ w, SC w → Calls Tryd.prog 30 #[.float .f64 x] w (VP x w) := fun w hT => by
      have n0 : (FloatKind.f64.format.order x 0 == some .eq) = true := by rw [zero_order hf]; exact decide_eq_true x0
      clear HC ca sa hr ar fa a0 al e1 e2 zb1 zb2 he ho hx
      go_enter Tryd.func30, Tryd.ntmps30
      go_wp2_with fail
      go_ret
      exact ⟨rfl, Below.refl _ _⟩
    have pb := PL.p4_bd
    have hY : Y = 0 := by
      apply Classical.byContradiction
      intro hn
      have h2 : (((2 : Int)) : Rat) ≤ (Y : Rat) := Rat.intCast_le_intCast.2 (by omega)
      rw [show (((2 : Int)) : Rat) = 2 by rfl] at h2
      have := Rat.mul_le_mul_of_nonneg_right h2 (show 0 ≤ PL.p4 by grind)
      rw [hx] at e1
      grind
    subst hY
    rw [hx, q0] at e1 e2
    have zz : -(1 / 10000000000000) ≤ rv z ∧ rv z ≤ 1 / 10000000000000 := by constructor <;> grind
    have cz := PL.Cv_flat zz.1 zz.2
    have ec : cosY (0 % 8) (rv z) = PL.Cv (rv z) := rfl
    have ec0 : cosY (0 % 8) 0 = 1 := by show PL.Cv 0 = 1; unfold PL.Cv; grind
    have es0 : sinY (0 % 8) 0 = 0 := by show PL.Sv 0 = 0; unfold PL.Sv; grind
    have c1 := ca.2.1
    have c2 := ca.2.2
    rw [ec] at c1 c2
    exact ⟨0, 0, _, x, ⟨by decide, by decide +kernel, by decide +kernel, by rw [x0, q0]; grind, by rw [x0, q0]; grind, ca.1, hf, by rw [ec0]; grind, by rw [ec0]; grind, by rw [es0, x0]; grind, by rw [es0, x0]; grind⟩, HC, HS⟩
  · obtain ⟨sg', hs⟩ : ∃ s, (FloatKind.f64.format.order x 0 == some .lt) = s := ⟨_, rfl⟩
    have hsv := hs
    rw [neg_order hf] at hsv
    have n0 : (FloatKind.f64.format.order x 0 == some .eq) = false := by rw [zero_order hf]; exact decide_eq_false x0
    have hax : sg? sg' x = x % 2 ^ 63 := by
      have sb := sign_bit2 hf
      cases sg'
      · have h0 := of_decide_eq_false hsv
        show x = x % 2 ^ 63
        have : x / 2 ^ 63 % 2 = 0 := by
          apply Classical.byContradiction
          intro hc
          exact h0 (by have := sb (by omega); grind)
        omega
      · have h0 := of_decide_eq_true hsv
        show x ^^^ 2 ^ 63 = x % 2 ^ 63
        have a1 := xor_mod x
        have a2 := xor_sign x
        have a3 := neg_lt lx
        have h1 : x / 2 ^ 63 % 2 = 1 := by
          apply Classical.byContradiction
          intro hc
          have : x % 2 ^ 63 = x := by omega
          rw [this] at a0
          grind
        rw [h1] at a2
        have a4 : (x ^^^ 2 ^ 63) / 2 ^ 63 % 2 ≠ 1 := by simpa using a2
        omega
    have sT : ∀ b, FL.Fin (sinO b (Y % 8) z) := fun b => by
      cases b
      · exact sa.1
      · rw [sinO_true ho]; exact neg_fin sa.1
    have HS : ∀ w, SC w → Calls Tryd.prog 30 #[.float .f64 x] w (VP (sinO sg' (Y % 8) z) w) := fun w hT => by
      refine (sinM x _ z sg' (Y % 8) w hT n0 (ord_nan hf) (fun W => isInfE x W lx hf) hs rfl (by rw [hax]; exact thr_no fa (by grind)) (by rw [hax]; exact hr)).mono ?_
      rintro e w' ⟨u, k, rfl, hu, rfl⟩
      rw [hu.eq (fin_nan (sT _))]
      exact ⟨rfl, below_dn w k⟩
    cases sg'
    · have h0 := of_decide_eq_false hsv
      have ex : rv (x % 2 ^ 63) = rv x := by rcases ar with e | e <;> grind
      rw [ex] at e1 e2
      exact ⟨Y, rv z, _, _, ⟨he, zb1, zb2, e1, e2, ca.1, sa.1, by have := ca.2.1; grind, by have := ca.2.2; grind, by have := sa.2.1; grind, by have := sa.2.2; grind⟩, HC, HS⟩
    · have h0 := of_decide_eq_true hsv
      have ex : rv (x % 2 ^ 63) = -rv x := by rcases ar with e | e <;> grind
      rw [ex] at e1 e2
      have vn : rv (sinO true (Y % 8) z) = -rv (sinO false (Y % 8) z) := by rw [sinO_true ho]; exact neg_rv sa.1
      have o2 : (-Y) % 8 = (-(Y % 8)) % 8 := by omega
      have cn := cosY_neg ho (rv z)
      have sn := sinY_neg ho (rv z)
      refine ⟨-Y, -rv z, _, _, ⟨by omega, by grind, by grind, ?_, ?_, ca.1, sT true, ?_, ?_, ?_, ?_⟩, HC, HS⟩
      · rw [Rat.intCast_neg]; grind
      · rw [Rat.intCast_neg]; grind
      · rw [o2, cn]; have := ca.2.1; grind
      · rw [o2, cn]; have := ca.2.2; grind
      · rw [o2, sn, vn]; have := sa.2.2; grind
      · rw [o2, sn, vn]; have := sa.2.1; grind
end Go.Proofs.YtnkpcjmmingkkaaDoor.F64
