/- FnLchToLabLinearInChroma. -/
import Derived.Test.YtekndhknldjlhaaDoorZz
import Derived.Test.YtekndhknldjlhaaDoorLin
namespace Go.Proofs.YtekndhknldjlhaaDoor.F64
open Go Go.RowKit Go.Lib Go.Proofs.YtekndhknldjlhaaDoor.FL
set_option linter.unusedVariables false
def absAny (x : Nat) : Nat := if (Ieee.double.order x 0 == some .lt) = true then Op.negFloat .f64 x else x
theorem zzAbsAny (x : Nat) (w : World) : Calls Tryd.prog 4 #[.float .f64 x] w fun e w' => e = .returned (.float .f64 (absAny x)) ∧ w = w' := by
  cases hn : (Ieee.double.order x 0 == some .lt)
  · have o1 : (FloatKind.f64.format.order x 0 == some .lt) = false := hn
    have HA := Lib.hid (show absAny x = x by unfold absAny; rw [if_neg (by rw [hn]; simp)])
    clear hn
    go_enter Tryd.func4, Tryd.ntmps4
    go_wp2
    go_ret
    exact ⟨by rw [HA.out]; rfl, rfl⟩
  · have o1 : (FloatKind.f64.format.order x 0 == some .lt) = true := hn
    have HA := Lib.hid (show absAny x = Op.negFloat .f64 x by unfold absAny; rw [if_pos hn])
    clear hn
    go_enter Tryd.func4, Tryd.ntmps4
    go_wp2
    go_ret
    exact ⟨by rw [HA.out]; rfl, rfl⟩
def geB (x y : Nat) : Bool := (FloatKind.f64.format.order x y == some .gt || FloatKind.f64.format.order x y == some .eq)
def leB (x y : Nat) : Bool := (FloatKind.f64.format.order x y == some .lt || FloatKind.f64.format.order x y == some .eq)
theorem zzIn (x lo hi : Nat) (w : World) : Calls Tryd.prog 5 #[.float .f64 x, .float .f64 lo, .float .f64 hi] w fun e w' => e = .returned (.bool (geB x lo && leB x hi)) ∧ w = w' := by
  cases hn : geB x lo
  · have o1 : (FloatKind.f64.format.order x lo == some .gt || FloatKind.f64.format.order x lo == some .eq) = false := hn
    clear hn
    go_enter Tryd.func5, Tryd.ntmps5
    go_wp2
    go_ret
    exact ⟨rfl, rfl⟩
  · have o1 : (FloatKind.f64.format.order x lo == some .gt || FloatKind.f64.format.order x lo == some .eq) = true := hn
    have HA := Lib.hid (show (true && leB x hi) = (FloatKind.f64.format.order x hi == some .lt || FloatKind.f64.format.order x hi == some .eq) by rw [Bool.true_and]; rfl)
    clear hn
    go_enter Tryd.func5, Tryd.ntmps5
    go_wp2
    go_ret
    exact ⟨by rw [HA.out]; rfl, rfl⟩
theorem fin_of_abs {x : Nat} (h : FL.Fin (absAny x)) : FL.Fin x ∧ (rv (absAny x) = rv x ∨ rv (absAny x) = - rv x) := by
  by_cases hn : (Ieee.double.order x 0 == some .lt) = true
  · have e : absAny x = x ^^^ 2 ^ 63 := by unfold absAny; rw [if_pos hn]; rfl
    have hx : FL.Fin x := by unfold FL.Fin at h ⊢; rw [e, xor_mod] at h; exact h
    exact ⟨hx, .inr (by rw [e, neg_rv hx])⟩
  · have e : absAny x = x := by unfold absAny; rw [if_neg hn]
    rw [e] at h ⊢
    exact ⟨h, .inl rfl⟩
theorem fin_zero {x : Nat} (h : (FloatKind.f64.format.order x 0 != some .eq) = false) : FL.Fin x ∧ rv x = 0 := by
  have h1 : (Ieee.double.order x 0 == some .eq) = true := by
    have : (FloatKind.f64.format.order x 0 == some .eq) = true := by
      cases hh : (FloatKind.f64.format.order x 0 == some .eq)
      · rw [bne, hh] at h; cases h
      · rfl
    exact this
  have hx : FL.Fin x := fin_between fZ fZ (by rw [h1]; simp) (by rw [h1]; simp)
  rw [eq_iff hx fZ, vZ] at h1
  exact ⟨hx, by simpa using h1⟩
theorem flo : FL.Fin 866636436678541900 := by unfold FL.Fin; decide
theorem fhi : FL.Fin 9094988921128908188 := by unfold FL.Fin; decide
theorem vlo : p2 (-831) ≤ rv 866636436678541900 := by unfold p2; decide +kernel
theorem vhi : rv 9094988921128908188 ≤ (10 : Rat) ^ 301 := by decide +kernel
theorem chr_zero {c : Nat} (h : (FloatKind.f64.format.order c 0 != some .eq) = false) : Chr c (-831) := by
  obtain ⟨f, e⟩ := fin_zero h
  have := ten_pos
  exact ⟨f, by grind, by grind, .inl e⟩
theorem chr_of {c : Nat} (h1 : geB (absAny c) 866636436678541900 = true) (h2 : leB (absAny c) 9094988921128908188 = true) : Chr c (-831) := by
  have fa : FL.Fin (absAny c) := fin_between flo fhi h1 h2
  have k1 : rv 866636436678541900 ≤ rv (absAny c) := by simpa using (ge_iff fa flo).symm.trans h1
  have k2 : rv (absAny c) ≤ rv 9094988921128908188 := by simpa using (le_iff fa fhi).symm.trans h2
  have a1 := vlo
  have a2 := vhi
  have a3 := p2_pos (-831)
  have := ten_pos
  obtain ⟨f, e | e⟩ := fin_of_abs fa
  · exact ⟨f, by grind, by grind, .inr (.inl (by grind))⟩
  · exact ⟨f, by grind, by grind, .inr (.inr (by grind))⟩
def Hue (h : Nat) : Prop := FL.Fin h ∧ -1000000 ≤ rv h ∧ rv h ≤ 1000000 ∧ (rv h = 0 ∨ p2 (-100) ≤ rv h ∨ rv h ≤ -p2 (-100))
theorem fh1 : FL.Fin 13920209183539462144 := by unfold FL.Fin; decide
theorem fh2 : FL.Fin 4696837146684686336 := by unfold FL.Fin; decide
theorem vh1 : rv 13920209183539462144 = -1000000 := by decide +kernel
theorem vh2 : rv 4696837146684686336 = 1000000 := by decide +kernel
theorem fty : FL.Fin 4158027847206421152 := by unfold FL.Fin; decide
theorem vty : p2 (-100) ≤ rv 4158027847206421152 := by unfold p2; decide +kernel
theorem hue_in {h : Nat} (hi : (geB h 13920209183539462144 && leB h 4696837146684686336) = true) : FL.Fin h ∧ -1000000 ≤ rv h ∧ rv h ≤ 1000000 := by
  obtain ⟨h1, h2⟩ := Bool.and_eq_true_iff.1 hi
  have fa : FL.Fin h := fin_between fh1 fh2 h1 h2
  have k1 : rv 13920209183539462144 ≤ rv h := by simpa using (ge_iff fa fh1).symm.trans h1
  have k2 : rv h ≤ rv 4696837146684686336 := by simpa using (le_iff fa fh2).symm.trans h2
  rw [vh1] at k1
  rw [vh2] at k2
  exact ⟨fa, k1, k2⟩
theorem hue_zero {h : Nat} (hi : (geB h 13920209183539462144 && leB h 4696837146684686336) = true) (h0 : (FloatKind.f64.format.order h 0 != some .eq) = false) : Hue h := by
  obtain ⟨f, a, b⟩ := hue_in hi
  exact ⟨f, a, b, .inl (fin_zero h0).2⟩
theorem abs_finite {x : Nat} (h : FL.Fin x) : FL.Fin (absAny x) := by
  by_cases hn : (Ieee.double.order x 0 == some .lt) = true
  · have e : absAny x = x ^^^ 2 ^ 63 := by unfold absAny; rw [if_pos hn]; rfl
    rw [e]; exact neg_fin h
  · have e : absAny x = x := by unfold absAny; rw [if_neg hn]
    rw [e]; exact h
theorem hue_of {h : Nat} (hi : (geB h 13920209183539462144 && leB h 4696837146684686336) = true) (h0 : (FloatKind.f64.format.order (absAny h) 4158027847206421152 == some .lt) = false) : Hue h := by
  obtain ⟨f, a, b⟩ := hue_in hi
  have fa := abs_finite f
  have k : ¬ rv (absAny h) < rv 4158027847206421152 := by simpa using (lt_iff fa fty).symm.trans h0
  have := vty
  refine ⟨f, a, b, ?_⟩
  rcases (fin_of_abs fa).2 with e | e
  · right; left; grind
  · right; right; grind
def wDeg : Nat := 4580687790476533049
theorem fDeg : FL.Fin wDeg := by unfold FL.Fin wDeg; decide
theorem vDeg1 : p2 (-6) ≤ rv wDeg := by unfold p2; decide +kernel
theorem vDeg2 : rv wDeg ≤ 18 / 1000 := by decide +kernel
theorem hue_mod {h : Nat} (hh : Hue h) : ∃ t, floatBits .mul .f64 h wDeg = some t ∧ Mod (-110) t := by
  obtain ⟨f, a, b, c⟩ := hh
  have k1 := vDeg1
  have k2 := vDeg2
  have pk := p2_pos (-6)
  have bg := big_le
  obtain ⟨m1, m2⟩ := mul_abs (X := 1000000) (E := 18 / 1000) a b (show -(18 / 1000) ≤ rv wDeg by grind) k2
  obtain ⟨t, ht, r, -, -⟩ := mul_rnd f fDeg (by grind) (by grind)
  have e := r.err 18000 (by grind) (by grind)
  have el := eta_le
  rw [u53_eq] at e
  refine ⟨t, ht, r.lt, r.fin, by grind, by grind, ?_⟩
  rcases c with c | c
  · left; exact r.zero (by rw [c, Rat.zero_mul])
  · right
    obtain ⟨H, hH, eH⟩ := pm_of c (p2_pos _)
    have h1 : p2 (-100) * p2 (-6) ≤ H * rv wDeg := by
      have a1 := Rat.mul_le_mul_of_nonneg_right hH (Rat.le_of_lt pk)
      have a2 := Rat.mul_le_mul_of_nonneg_left k1 (show (0 : Rat) ≤ H by have := p2_pos (-100); grind)
      grind
    rw [← p2_add] at h1
    have e4 : p2 (-100 + -6) = 16 * p2 (-110) := by
      rw [show (-100 + -6 : Int) = 4 + -110 by decide, p2_add, show p2 4 = 16 by unfold p2; decide +kernel]
    have p1 := p2_pos (-110)
    have es : eta ≤ p2 (-110) := p2_le (by decide)
    have hv : rv h * rv wDeg = H * rv wDeg ∨ rv h * rv wDeg = -(H * rv wDeg) := by rcases eH with e | e <;> rw [e] <;> grind
    have e2 := r.err (H * rv wDeg) (by rcases hv with h | h <;> grind) (by rcases hv with h | h <;> grind)
    rw [u53_eq] at e2
    rcases hv with h | h
    · left; grind
    · right; grind
def Good (u v c : Nat) : Prop := floatBits .mul .f64 u c = some (fop .mul u c) ∧ floatBits .mul .f64 v c = some (fop .mul v c)
theorem zzP (l c h t u v : Nat) (w : World) (hT : SC w) (ht : floatBits .mul .f64 h wDeg = some t)
    (HC : ∀ W, SC W → Calls Tryd.prog 17 #[.float .f64 t] W (VP u W)) (HS : ∀ W, SC W → Calls Tryd.prog 19 #[.float .f64 t] W (VP v W)) (g : Good u v c) :
    Calls Tryd.prog 6 #[.float .f64 l, .float .f64 c, .float .f64 h] w
      fun e w' => e = .returned (.tuple #[.float .f64 l, .float .f64 (fop .mul u c), .float .f64 (fop .mul v c)]) ∧ Below w.heap.size w w' :=
  zz l c h _ _ w hT fun W hW => polar l c h t u v W hW ht HC HS g.1 g.2

set_option maxRecDepth 100000 in
set_option maxHeartbeats 4000000 in
theorem law (l c h : Nat) (w : World) (_hl : (Lit.float .f64 l).wf = true) (_hc : (Lit.float .f64 c).wf = true) (_hh : (Lit.float .f64 h).wf = true) (hT : SC w) : Calls Tryd.prog 3 #[.float .f64 l, .float .f64 c, .float .f64 h] w fun e w' => e = .returned (.bool true) ∧ Below w.heap.size w w' := by
  cases nl : (FloatKind.f64.format.order l l != some .eq)
  rotate_left
  · clear hT
    go_enter Tryd.func3, Tryd.ntmps3
    go_wp2_with (first
      | (go_at_call 4; refine (zzAbsAny _ _).mono ?_; rintro e w' ⟨rfl, rfl⟩)
      | (go_at_call 5; refine (zzIn _ _ _ _).mono ?_; rintro e w' ⟨rfl, rfl⟩))
    go_ret
    exact ⟨rfl, Below.refl _ _⟩
  cases gA : (FloatKind.f64.format.order c 0 != some .eq)
  · have chr : Chr c (-831) := chr_zero gA
    cases hi : (geB h 13920209183539462144 && leB h 4696837146684686336)
    · clear hT chr
      go_enter Tryd.func3, Tryd.ntmps3
      go_wp2_with (first
        | (go_at_call 4; refine (zzAbsAny _ _).mono ?_; rintro e w' ⟨rfl, rfl⟩)
        | (go_at_call 5; refine (zzIn _ _ _ _).mono ?_; rintro e w' ⟨rfl, rfl⟩))
      go_ret
      exact ⟨rfl, Below.refl _ _⟩
    cases hB : (FloatKind.f64.format.order h 0 != some .eq)
    · have hue : Hue h := hue_zero hi hB
      obtain ⟨t, ht, hm⟩ := hue_mod hue
      have hb : BO (-110) := by unfold BO; decide
      obtain ⟨u, hu, -, cu⟩ := cosC hb t hm
      obtain ⟨v, hv, -, sv⟩ := sinC hb t hm
      have tb := ten_big
      have tp := ten_pos
      obtain ⟨c2, hc2, f2, e2⟩ := mul_two chr.1 (by have := chr.2.1; grind) (by have := chr.2.2.1; grind)
      obtain ⟨p, q, r, d, hp, hq, hr, hd, s1, s2⟩ := lin hu chr (by decide) f2 e2
      obtain ⟨p', q', r', d', hp', hq', hr', hd', s1', s2'⟩ := lin hv chr (by decide) f2 e2
      obtain rfl := fop_some hp
      obtain rfl := fop_some hq
      obtain rfl := fop_some hr
      obtain rfl := fop_some hp'
      obtain rfl := fop_some hq'
      obtain rfl := fop_some hr'
      have G1 : Good u v c := ⟨hp, hp'⟩
      have G2 : Good u v c2 := ⟨hq, hq'⟩
      have G3 : Good u v (Op.negFloat .f64 c) := ⟨hr, hr'⟩
      have Z := Lib.hid fun c' W (g : Good u v c') (hW : Below w.heap.size w W) => zzP l c' h t u v W (hT.below hW (Nat.le_refl _)) ht cu sv g
      have bb : Below w.heap.size w w := Below.refl _ _
      have M1 := fun (t : TypeId) (w : World) => run_float_arith (P := Tryd.prog) w .mul t .f64 _ _ _ hc2
      have M2 := fun (t : TypeId) (w : World) => run_float_arith (P := Tryd.prog) w .mul t .f64 _ _ _ hd
      have M3 := fun (t : TypeId) (w : World) => run_float_arith (P := Tryd.prog) w .mul t .f64 _ _ _ hd'
      have q1 := s1
      have q2 := s2
      have q3 := s1'
      have q4 := s2'
      have q0 : (FloatKind.f64.format.order l l == some .eq) = true := by
        cases hh : (FloatKind.f64.format.order l l == some .eq)
        · rw [bne, hh] at nl; cases nl
        · rfl
      unfold w2 at M1 M2 M3
      clear chr hue hm hu cu hv sv hp hq hr hp' hq' hr' hd hd' f2 e2 hc2 ht s1 s2 s1' s2' hT tb tp hb
      go_enter Tryd.func3, Tryd.ntmps3
      go_wp2_with (first
        | (go_at_call 4; refine (zzAbsAny _ _).mono ?_; rintro e w' ⟨rfl, rfl⟩)
        | (go_at_call 5; refine (zzIn _ _ _ _).mono ?_; rintro e w' ⟨rfl, rfl⟩)
        | (go_at_call 6; refine (Z.out _ _ (by assumption) (by assumption)).mono ?_; rintro e w1 ⟨rfl, bn⟩; have bb := bb.trans (bn.mono bb.size); clear bn))
      go_ret
      exact ⟨rfl, bb⟩
    cases hC : (FloatKind.f64.format.order (absAny h) 4158027847206421152 == some .lt)
    · have hue : Hue h := hue_of hi hC
      obtain ⟨t, ht, hm⟩ := hue_mod hue
      have hb : BO (-110) := by unfold BO; decide
      obtain ⟨u, hu, -, cu⟩ := cosC hb t hm
      obtain ⟨v, hv, -, sv⟩ := sinC hb t hm
      have tb := ten_big
      have tp := ten_pos
      obtain ⟨c2, hc2, f2, e2⟩ := mul_two chr.1 (by have := chr.2.1; grind) (by have := chr.2.2.1; grind)
      obtain ⟨p, q, r, d, hp, hq, hr, hd, s1, s2⟩ := lin hu chr (by decide) f2 e2
      obtain ⟨p', q', r', d', hp', hq', hr', hd', s1', s2'⟩ := lin hv chr (by decide) f2 e2
      obtain rfl := fop_some hp
      obtain rfl := fop_some hq
      obtain rfl := fop_some hr
      obtain rfl := fop_some hp'
      obtain rfl := fop_some hq'
      obtain rfl := fop_some hr'
      have G1 : Good u v c := ⟨hp, hp'⟩
      have G2 : Good u v c2 := ⟨hq, hq'⟩
      have G3 : Good u v (Op.negFloat .f64 c) := ⟨hr, hr'⟩
      have Z := Lib.hid fun c' W (g : Good u v c') (hW : Below w.heap.size w W) => zzP l c' h t u v W (hT.below hW (Nat.le_refl _)) ht cu sv g
      have bb : Below w.heap.size w w := Below.refl _ _
      have M1 := fun (t : TypeId) (w : World) => run_float_arith (P := Tryd.prog) w .mul t .f64 _ _ _ hc2
      have M2 := fun (t : TypeId) (w : World) => run_float_arith (P := Tryd.prog) w .mul t .f64 _ _ _ hd
      have M3 := fun (t : TypeId) (w : World) => run_float_arith (P := Tryd.prog) w .mul t .f64 _ _ _ hd'
      have q1 := s1
      have q2 := s2
      have q3 := s1'
      have q4 := s2'
      have q0 : (FloatKind.f64.format.order l l == some .eq) = true := by
        cases hh : (FloatKind.f64.format.order l l == some .eq)
        · rw [bne, hh] at nl; cases nl
        · rfl
      unfold w2 at M1 M2 M3
      clear chr hue hm hu cu hv sv hp hq hr hp' hq' hr' hd hd' f2 e2 hc2 ht s1 s2 s1' s2' hT tb tp hb
      go_enter Tryd.func3, Tryd.ntmps3
      go_wp2_with (first
        | (go_at_call 4; refine (zzAbsAny _ _).mono ?_; rintro e w' ⟨rfl, rfl⟩)
        | (go_at_call 5; refine (zzIn _ _ _ _).mono ?_; rintro e w' ⟨rfl, rfl⟩)
        | (go_at_call 6; refine (Z.out _ _ (by assumption) (by assumption)).mono ?_; rintro e w1 ⟨rfl, bn⟩; have bb := bb.trans (bn.mono bb.size); clear bn))
      go_ret
      exact ⟨rfl, bb⟩
    · clear hT chr
      go_enter Tryd.func3, Tryd.ntmps3
      go_wp2_with (first
        | (go_at_call 4; refine (zzAbsAny _ _).mono ?_; rintro e w' ⟨rfl, rfl⟩)
        | (go_at_call 5; refine (zzIn _ _ _ _).mono ?_; rintro e w' ⟨rfl, rfl⟩))
      go_ret
      exact ⟨rfl, Below.refl _ _⟩
  cases gB : geB (absAny c) 866636436678541900
  · have gB' : (FloatKind.f64.format.order (absAny c) 866636436678541900 == some .gt || FloatKind.f64.format.order (absAny c) 866636436678541900 == some .eq) = false := gB
    clear gB hT
    go_enter Tryd.func3, Tryd.ntmps3
    go_wp2_with (first
      | (go_at_call 4; refine (zzAbsAny _ _).mono ?_; rintro e w' ⟨rfl, rfl⟩)
      | (go_at_call 5; refine (zzIn _ _ _ _).mono ?_; rintro e w' ⟨rfl, rfl⟩))
    go_ret
    exact ⟨rfl, Below.refl _ _⟩
  cases gC : leB (absAny c) 9094988921128908188
  · have gB' : (FloatKind.f64.format.order (absAny c) 866636436678541900 == some .gt || FloatKind.f64.format.order (absAny c) 866636436678541900 == some .eq) = true := gB
    have gC' : (FloatKind.f64.format.order (absAny c) 9094988921128908188 == some .lt || FloatKind.f64.format.order (absAny c) 9094988921128908188 == some .eq) = false := gC
    clear gB gC hT
    go_enter Tryd.func3, Tryd.ntmps3
    go_wp2_with (first
      | (go_at_call 4; refine (zzAbsAny _ _).mono ?_; rintro e w' ⟨rfl, rfl⟩)
      | (go_at_call 5; refine (zzIn _ _ _ _).mono ?_; rintro e w' ⟨rfl, rfl⟩))
    go_ret
    exact ⟨rfl, Below.refl _ _⟩
  · have chr0 : Chr c (-831) := chr_of gB gC
    have gB' : (FloatKind.f64.format.order (absAny c) 866636436678541900 == some .gt || FloatKind.f64.format.order (absAny c) 866636436678541900 == some .eq) = true := gB
    have gC' : (FloatKind.f64.format.order (absAny c) 9094988921128908188 == some .lt || FloatKind.f64.format.order (absAny c) 9094988921128908188 == some .eq) = true := gC
    clear gB gC
    have chr : Chr c (-831) := chr0
    cases hi : (geB h 13920209183539462144 && leB h 4696837146684686336)
    · clear hT chr
      go_enter Tryd.func3, Tryd.ntmps3
      go_wp2_with (first
        | (go_at_call 4; refine (zzAbsAny _ _).mono ?_; rintro e w' ⟨rfl, rfl⟩)
        | (go_at_call 5; refine (zzIn _ _ _ _).mono ?_; rintro e w' ⟨rfl, rfl⟩))
      go_ret
      exact ⟨rfl, Below.refl _ _⟩
    cases hB : (FloatKind.f64.format.order h 0 != some .eq)
    · have hue : Hue h := hue_zero hi hB
      obtain ⟨t, ht, hm⟩ := hue_mod hue
      have hb : BO (-110) := by unfold BO; decide
      obtain ⟨u, hu, -, cu⟩ := cosC hb t hm
      obtain ⟨v, hv, -, sv⟩ := sinC hb t hm
      have tb := ten_big
      have tp := ten_pos
      obtain ⟨c2, hc2, f2, e2⟩ := mul_two chr.1 (by have := chr.2.1; grind) (by have := chr.2.2.1; grind)
      obtain ⟨p, q, r, d, hp, hq, hr, hd, s1, s2⟩ := lin hu chr (by decide) f2 e2
      obtain ⟨p', q', r', d', hp', hq', hr', hd', s1', s2'⟩ := lin hv chr (by decide) f2 e2
      obtain rfl := fop_some hp
      obtain rfl := fop_some hq
      obtain rfl := fop_some hr
      obtain rfl := fop_some hp'
      obtain rfl := fop_some hq'
      obtain rfl := fop_some hr'
      have G1 : Good u v c := ⟨hp, hp'⟩
      have G2 : Good u v c2 := ⟨hq, hq'⟩
      have G3 : Good u v (Op.negFloat .f64 c) := ⟨hr, hr'⟩
      have Z := Lib.hid fun c' W (g : Good u v c') (hW : Below w.heap.size w W) => zzP l c' h t u v W (hT.below hW (Nat.le_refl _)) ht cu sv g
      have bb : Below w.heap.size w w := Below.refl _ _
      have M1 := fun (t : TypeId) (w : World) => run_float_arith (P := Tryd.prog) w .mul t .f64 _ _ _ hc2
      have M2 := fun (t : TypeId) (w : World) => run_float_arith (P := Tryd.prog) w .mul t .f64 _ _ _ hd
      have M3 := fun (t : TypeId) (w : World) => run_float_arith (P := Tryd.prog) w .mul t .f64 _ _ _ hd'
      have q1 := s1
      have q2 := s2
      have q3 := s1'
      have q4 := s2'
      have q0 : (FloatKind.f64.format.order l l == some .eq) = true := by
        cases hh : (FloatKind.f64.format.order l l == some .eq)
        · rw [bne, hh] at nl; cases nl
        · rfl
      unfold w2 at M1 M2 M3
      clear chr hue hm hu cu hv sv hp hq hr hp' hq' hr' hd hd' f2 e2 hc2 ht s1 s2 s1' s2' hT tb tp hb
      go_enter Tryd.func3, Tryd.ntmps3
      go_wp2_with (first
        | (go_at_call 4; refine (zzAbsAny _ _).mono ?_; rintro e w' ⟨rfl, rfl⟩)
        | (go_at_call 5; refine (zzIn _ _ _ _).mono ?_; rintro e w' ⟨rfl, rfl⟩)
        | (go_at_call 6; refine (Z.out _ _ (by assumption) (by assumption)).mono ?_; rintro e w1 ⟨rfl, bn⟩; have bb := bb.trans (bn.mono bb.size); clear bn))
      go_ret
      exact ⟨rfl, bb⟩
    cases hC : (FloatKind.f64.format.order (absAny h) 4158027847206421152 == some .lt)
    · have hue : Hue h := hue_of hi hC
      obtain ⟨t, ht, hm⟩ := hue_mod hue
      have hb : BO (-110) := by unfold BO; decide
      obtain ⟨u, hu, -, cu⟩ := cosC hb t hm
      obtain ⟨v, hv, -, sv⟩ := sinC hb t hm
      have tb := ten_big
      have tp := ten_pos
      obtain ⟨c2, hc2, f2, e2⟩ := mul_two chr.1 (by have := chr.2.1; grind) (by have := chr.2.2.1; grind)
      obtain ⟨p, q, r, d, hp, hq, hr, hd, s1, s2⟩ := lin hu chr (by decide) f2 e2
      obtain ⟨p', q', r', d', hp', hq', hr', hd', s1', s2'⟩ := lin hv chr (by decide) f2 e2
      obtain rfl := fop_some hp
      obtain rfl := fop_some hq
      obtain rfl := fop_some hr
      obtain rfl := fop_some hp'
      obtain rfl := fop_some hq'
      obtain rfl := fop_some hr'
      have G1 : Good u v c := ⟨hp, hp'⟩
      have G2 : Good u v c2 := ⟨hq, hq'⟩
      have G3 : Good u v (Op.negFloat .f64 c) := ⟨hr, hr'⟩
      have Z := Lib.hid fun c' W (g : Good u v c') (hW : Below w.heap.size w W) => zzP l c' h t u v W (hT.below hW (Nat.le_refl _)) ht cu sv g
      have bb : Below w.heap.size w w := Below.refl _ _
      have M1 := fun (t : TypeId) (w : World) => run_float_arith (P := Tryd.prog) w .mul t .f64 _ _ _ hc2
      have M2 := fun (t : TypeId) (w : World) => run_float_arith (P := Tryd.prog) w .mul t .f64 _ _ _ hd
      have M3 := fun (t : TypeId) (w : World) => run_float_arith (P := Tryd.prog) w .mul t .f64 _ _ _ hd'
      have q1 := s1
      have q2 := s2
      have q3 := s1'
      have q4 := s2'
      have q0 : (FloatKind.f64.format.order l l == some .eq) = true := by
        cases hh : (FloatKind.f64.format.order l l == some .eq)
        · rw [bne, hh] at nl; cases nl
        · rfl
      unfold w2 at M1 M2 M3
      clear chr hue hm hu cu hv sv hp hq hr hp' hq' hr' hd hd' f2 e2 hc2 ht s1 s2 s1' s2' hT tb tp hb
      go_enter Tryd.func3, Tryd.ntmps3
      go_wp2_with (first
        | (go_at_call 4; refine (zzAbsAny _ _).mono ?_; rintro e w' ⟨rfl, rfl⟩)
        | (go_at_call 5; refine (zzIn _ _ _ _).mono ?_; rintro e w' ⟨rfl, rfl⟩)
        | (go_at_call 6; refine (Z.out _ _ (by assumption) (by assumption)).mono ?_; rintro e w1 ⟨rfl, bn⟩; have bb := bb.trans (bn.mono bb.size); clear bn))
      go_ret
      exact ⟨rfl, bb⟩
    · clear hT chr
      go_enter Tryd.func3, Tryd.ntmps3
      go_wp2_with (first
        | (go_at_call 4; refine (zzAbsAny _ _).mono ?_; rintro e w' ⟨rfl, rfl⟩)
        | (go_at_call 5; refine (zzIn _ _ _ _).mono ?_; rintro e w' ⟨rfl, rfl⟩))
      go_ret
      exact ⟨rfl, Below.refl _ _⟩

end Go.Proofs.YtekndhknldjlhaaDoor.F64
