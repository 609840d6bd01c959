/- math.Sin and math.Cos of moderate numbers: contracts. -/
import Derived.Test.YtnkpcjmmingkkaaDoorVal
import Derived.Laws.Bits64
import Derived.Laws.BitsAllLaws
namespace Go.Proofs.YtnkpcjmmingkkaaDoor.F64
open Go Go.RowKit Go.Lib Go.Proofs.YtnkpcjmmingkkaaDoor.FL
set_option linter.unusedVariables false
theorem tobits (x : Nat) (w : World) : (callFunc 43 #[.float .f64 x]).run Tryd.prog w = .ok (.value (.int .u64 x)) w := by kernel_rfl
theorem frombits (n : Int) (w : World) : (callFunc 42 #[.int .u64 n]).run Tryd.prog w = .ok (.value (.float .f64 n.toNat)) w := by kernel_rfl
theorem andNot63 (x : Nat) (h : x < 2 ^ 64) : Go.bits .andNot .u64 (x : Int) 9223372036854775808 = ((x % 2 ^ 63 : Nat) : Int) := by
  have e := u64_andNot_nat x 9223372036854775808 (by omega) (by decide)
  rw [show (18446744073709551615 - 9223372036854775808 : Nat) = 2 ^ 63 - 1 by decide, Nat.and_two_pow_sub_one_eq_mod] at e
  exact e
theorem absF (x : Nat) (w : World) (h : x < 2 ^ 64) : Calls Tryd.prog 37 #[.float .f64 x] w (fun e w' => e = .returned (.float .f64 (x % 2 ^ 63)) ∧ w = w') := by
  have h1 := tobits
  have h2 := frombits
  have h3 := andNot63 x h
  generalize x % 2 ^ 63 = y at *
  have h4 : ((y : Nat) : Int).toNat = y := Int.toNat_natCast y
  clear h
  go_enter Tryd.func37, Tryd.ntmps37
  go_wp2_with fail
  go_ret
  exact ⟨rfl, rfl⟩
theorem abs_rv {x : Nat} (hf : FL.Fin x) : FL.Fin (x % 2 ^ 63) ∧ 0 ≤ rv (x % 2 ^ 63) ∧ (rv (x % 2 ^ 63) = rv x ∨ rv (x % 2 ^ 63) = - rv x) := by
  have hf' : FL.Fin (x % 2 ^ 63) := by unfold FL.Fin at *; rw [Nat.mod_mod]; exact hf
  obtain ⟨E, K, hK, hE, hw, hv⟩ := fin_form hf
  have hlt : E * 2 ^ 52 + K < 2047 * 2 ^ 52 := by unfold FL.Fin at hf; omega
  have e := rung_val false E K (by omega) hE hlt
  have e2 : Ieee.double.word false (E * 2 ^ 52 + K) = x % 2 ^ 63 := by rw [hw]; rfl
  rw [e2] at e
  have n := mulp_nn K ((E : Int) - 1074)
  have e3 : rv (x % 2 ^ 63) = K * p2 ((E : Int) - 1074) := by rw [e]; simp only [sg, Bool.false_eq_true, if_false]; grind
  refine ⟨hf', by rw [e3]; exact n, ?_⟩
  rw [e3, hv]
  rcases sg_pm (x / 2 ^ 63 % 2 == 1) with h | h <;> rw [h]
  · right; grind
  · left; grind
theorem fMax : FL.Fin 9218868437227405311 := by unfold FL.Fin; decide
theorem isInfF (x : Nat) (w : World) (h : x < 2 ^ 64) (hf : FL.Fin x) (b : rv (x % 2 ^ 63) ≤ 32768) : Calls Tryd.prog 35 #[.float .f64 x, .int .i64 0] w (fun e w' => e = .returned (.bool false) ∧ w = w') := by
  have ha := absF x w h
  have ho : (FloatKind.f64.format.order (x % 2 ^ 63) 9218868437227405311 == some .gt) = false := by
    show (Ieee.double.order _ _ == some .gt) = false
    rw [gt_iff (abs_rv hf).1 fMax, decide_eq_false_iff_not]
    have : (32768 : Rat) ≤ rv 9218868437227405311 := by decide +kernel
    grind
  have HA := Lib.hid ha
  generalize x % 2 ^ 63 = y at *
  clear ha h hf b
  go_enter Tryd.func35, Tryd.ntmps35
  go_wp2_with (go_at_call 37; refine HA.out.mono ?_; rintro e w' ⟨rfl, rfl⟩)
  go_ret
  exact ⟨rfl, rfl⟩
theorem val_not {b : Int} {v : Nat} (h : Val b v) : ¬ IsNaN v := by
  have := h.1
  unfold IsNaN; unfold FL.Fin at this; omega
/-- A moderate argument: finite, at most 32768, zero or not too small. -/
def Mod (b : Int) (x : Nat) : Prop := x < 2 ^ 64 ∧ FL.Fin x ∧ -32768 ≤ rv x ∧ rv x ≤ 32768 ∧ (rv x = 0 ∨ p2 b ≤ rv x ∨ rv x ≤ -p2 b)
def VP (v : Nat) (w : World) (e : Ending) (w' : World) : Prop := e = .returned (.float .f64 v) ∧ Below w.heap.size w w'
theorem below_dn (w : World) (k : Nat) : Below w.heap.size w (w.drewN k) := ⟨rfl, rfl, rfl, Nat.le_refl _, fun _ _ => rfl⟩
theorem rest_bd {b : Int} (hb : BO b) {ax z : Nat} (h : Rest ax z) (h0 : rv ax = 0 ∨ p2 b ≤ rv ax ∨ rv ax ≤ -p2 b) : Bd z (4 / 5) ∧ (rv z = 0 ∨ p2 b ≤ rv z ∨ rv z ≤ -p2 b) := by
  obtain ⟨f, a, b2, c⟩ := h
  have hle := p2_le hb.2
  refine ⟨⟨f, a, b2⟩, ?_⟩
  rcases c with c | c | c | c
  · exact .inl c
  · rw [c]; exact h0
  · exact .inr (.inl (Rat.le_trans hle c))
  · exact .inr (.inr (by grind))
theorem ord_nan {x : Nat} (hf : FL.Fin x) : (FloatKind.f64.format.order x x != some .eq) = false := by
  rcases order_fin hf hf with ⟨c, _⟩ | ⟨_, c⟩ | ⟨c, _⟩
  · grind
  · show (Ieee.double.order x x != some .eq) = false
    rw [c]; rfl
  · grind
theorem thr_no {ax : Nat} (hf : FL.Fin ax) (h : rv ax ≤ 32768) : (FloatKind.f64.format.order ax 4737786807993761792 == some .gt || FloatKind.f64.format.order ax 4737786807993761792 == some .eq) = false := by
  have ft : FL.Fin 4737786807993761792 := by unfold FL.Fin; decide
  show (Ieee.double.order ax 4737786807993761792 == some .gt || Ieee.double.order ax 4737786807993761792 == some .eq) = false
  rw [ge_iff hf ft, decide_eq_false_iff_not]
  have : (32768 : Rat) < rv 4737786807993761792 := by decide +kernel
  grind
theorem red_zero : Red 0 0 0 := by
  refine ⟨⟨0, 0, 0, false, 0, 0, 0, 0, 0, by decide +kernel, by decide +kernel, by decide, by decide, ?_, by decide +kernel, by decide +kernel, by decide +kernel, by decide +kernel, by decide +kernel, by decide +kernel⟩, .inl rfl⟩
  rw [if_neg (by decide)]
  exact ⟨by decide, by decide +kernel, by decide⟩
theorem cos_zero : cosO 0 0 = 4607182418800017408 := by decide +kernel
theorem zero_word {x : Nat} (hf : FL.Fin x) (h : rv x = 0) : x % 2 ^ 63 = 0 := by
  obtain ⟨h1, -⟩ := rv_inj hf fZ (by rw [h, vZ])
  simpa using h1
theorem cosC {b : Int} (hb : BO b) (x : Nat) (h : Mod b x) : ∃ v, Val b v ∧ (rv x = 0 → rv v = 1) ∧ ∀ w, SC w → Calls Tryd.prog 28 #[.float .f64 x] w (VP v w) := by
  obtain ⟨hl, hf, b1, b2, h0⟩ := h
  obtain ⟨fa, a0, ar⟩ := abs_rv hf
  have al : rv (x % 2 ^ 63) ≤ 32768 := by rcases ar with e | e <;> grind
  have ah : rv (x % 2 ^ 63) = 0 ∨ p2 b ≤ rv (x % 2 ^ 63) ∨ rv (x % 2 ^ 63) ≤ -p2 b := by
    have := p2_pos b
    rcases ar with e | e <;> rcases h0 with h | h | h <;> first | (left; grind) | (right; left; grind) | (right; right; grind)
  by_cases e0 : rv x = 0
  · refine ⟨4607182418800017408, ⟨fOne, by rw [vOne]; decide +kernel, by rw [vOne]; decide +kernel, .inr (.inl (by rw [vOne]; have h1 := p2_le (show b - 1 ≤ -1 by have := hb.2; omega); rw [show p2 (-1) = 1 / 2 by unfold p2; decide +kernel] at h1; grind))⟩, fun _ => vOne, fun w hT => ?_⟩
    have hz := zero_word hf e0
    have := cosM x (x % 2 ^ 63) 0 0 w hT (ord_nan hf) (fun W => isInfF x W hl hf al) (fun W => absF x W hl) (thr_no fa al) (by rw [hz]; exact red_zero)
    refine this.mono ?_
    rintro e w' ⟨u, k, rfl, hu, rfl⟩
    rw [cos_zero] at hu
    rw [hu.eq (by unfold IsNaN; decide)]
    exact ⟨rfl, below_dn w k⟩
  obtain ⟨o, z, hr, hz⟩ := red_of (x % 2 ^ 63) fa a0 al
  obtain ⟨bz, zz⟩ := rest_bd hb hz ah
  have hv := cosOV hb (o := o) bz zz
  refine ⟨cosO o z, hv, fun e => absurd e e0, fun w hT => ?_⟩
  · have := cosM x (x % 2 ^ 63) z o w hT (ord_nan hf) (fun W => isInfF x W hl hf al) (fun W => absF x W hl) (thr_no fa al) hr
    refine this.mono ?_
    rintro e w' ⟨u, k, rfl, hu, rfl⟩
    rw [hu.eq (val_not hv)]
    exact ⟨rfl, below_dn w k⟩
theorem zero_order {x : Nat} (hf : FL.Fin x) : (FloatKind.f64.format.order x 0 == some .eq) = decide (rv x = 0) := by
  show (Ieee.double.order x 0 == some .eq) = _
  rw [eq_iff hf fZ, vZ]
theorem neg_order {x : Nat} (hf : FL.Fin x) : (FloatKind.f64.format.order x 0 == some .lt) = decide (rv x < 0) := by
  show (Ieee.double.order x 0 == some .lt) = _
  rw [lt_iff hf fZ, vZ]
theorem sinC {b : Int} (hb : BO b) (x : Nat) (h : Mod b x) : ∃ v, Val b v ∧ (rv x = 0 → rv v = 0) ∧ ∀ w, SC w → Calls Tryd.prog 30 #[.float .f64 x] w (VP v w) := by
  obtain ⟨hl, hf, b1, b2, h0⟩ := h
  by_cases e0 : rv x = 0
  · refine ⟨x, ⟨hf, by rw [e0]; grind, by rw [e0]; grind, .inl e0⟩, fun _ => e0, fun w hT => ?_⟩
    have n0 : (FloatKind.f64.format.order x 0 == some .eq) = true := by rw [zero_order hf]; exact decide_eq_true e0
    go_enter Tryd.func30, Tryd.ntmps30
    go_wp2_with fail
    go_ret
    exact ⟨rfl, Below.refl _ _⟩
  · obtain ⟨s, hs⟩ : ∃ s, (FloatKind.f64.format.order x 0 == some .lt) = s := ⟨_, rfl⟩
    have hsv := hs
    rw [neg_order hf] at hsv
    have fa : FL.Fin (sg? s x) ∧ 0 ≤ rv (sg? s x) ∧ rv (sg? s x) ≤ 32768 ∧ (rv (sg? s x) = 0 ∨ p2 b ≤ rv (sg? s x) ∨ rv (sg? s x) ≤ -p2 b) := by
      cases s
      · have := of_decide_eq_false hsv
        exact ⟨hf, by show 0 ≤ rv x; grind, b2, h0⟩
      · have := of_decide_eq_true hsv
        have e : sg? true x = x ^^^ 2 ^ 63 := rfl
        rw [e, neg_rv hf]
        exact ⟨neg_fin hf, by grind, by grind, by rcases h0 with h | h | h; left; grind; right; right; grind; right; left; grind⟩
    obtain ⟨fa, a0, al, ah⟩ := fa
    obtain ⟨o, z, hr, hz⟩ := red_of (sg? s x) fa a0 al
    obtain ⟨bz, zz⟩ := rest_bd hb hz ah
    have hv := sinOV hb (s := s) (o := o) bz zz
    have al2 : rv (x % 2 ^ 63) ≤ 32768 := by rcases (abs_rv hf).2.2 with e | e <;> grind
    refine ⟨sinO s o z, hv, fun e => absurd e e0, fun w hT => ?_⟩
    have n0 : (FloatKind.f64.format.order x 0 == some .eq) = false := by rw [zero_order hf]; exact decide_eq_false e0
    refine (sinM x _ z s o w hT n0 (ord_nan hf) (fun W => isInfF x W hl hf al2) hs rfl (thr_no fa al) hr).mono ?_
    rintro e w' ⟨u, k, rfl, hu, rfl⟩
    rw [hu.eq (val_not hv)]
    exact ⟨rfl, below_dn w k⟩
end Go.Proofs.YtnkpcjmmingkkaaDoor.F64
