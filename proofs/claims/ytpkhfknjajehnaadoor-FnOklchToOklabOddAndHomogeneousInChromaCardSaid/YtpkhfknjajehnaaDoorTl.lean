/- FnOklchToOklabOddAndHomogeneousInChroma: the law. -/
import Derived.Test.YtpkhfknjajehnaaDoorTj
namespace Go.Proofs.YtpkhfknjajehnaaDoor.F64
open Go Go.RowKit Go.Lib Go.Proofs.YtpkhfknjajehnaaDoor.FL
set_option linter.unusedVariables false
theorem zzT (l c h u v : Nat) (w : World) (hT : TB w) (HC : One 19 (fop .mul h 4580687790476533049) u) (HS : One 21 (fop .mul h 4580687790476533049) v) :
    Calls Tryd.prog 4 #[.float .f64 l, .float .f64 c, .float .f64 h] w
      fun e w' => ∃ p q, e = .returned (.tuple #[.float .f64 l, .float .f64 p, .float .f64 q]) ∧ Eqv p (fop .mul u c) ∧ Eqv q (fop .mul v c) ∧ Below w.heap.size w w' :=
  zzA l c h _ _ w hT fun W hW => oklch l c h _ _ W hW fun W hW => polarA l c h u v W hW HC HS
theorem zzG (l c h u v : Nat) (w : World) (hT : TB w) (HC : One 19 (fop .mul h 4580687790476533049) u) (HS : One 21 (fop .mul h 4580687790476533049) v) (g : Good u v c) :
    Calls Tryd.prog 4 #[.float .f64 l, .float .f64 c, .float .f64 h] w
      fun e w' => e = .returned (.tuple #[.float .f64 l, .float .f64 (fop .mul u c), .float .f64 (fop .mul v c)]) ∧ Below w.heap.size w w' := by
  refine (zzT l c h u v w hT HC HS).mono ?_
  rintro e w' ⟨p, q, rfl, hp, hq, hb⟩
  rw [hp.eq g.1, hq.eq g.2]
  exact ⟨rfl, hb⟩
theorem ord_num {q d : Nat} (h : (FloatKind.f64.format.order q d == some .eq) = true) : ¬ IsNaN q := by
  intro hn
  rw [ord_isnan hn] at h
  cases h
theorem two_num {p d : Nat} (h : floatBits .mul .f64 w2 p = some d) : ¬ IsNaN p := by
  intro hn
  rw [nan_op (.inr (.inr (.inl rfl))) (.inr hn)] at h
  cases h
set_option maxHeartbeats 1000000 in
theorem law (l c h : Nat) (w : World) (hl : (Lit.float .f64 l).wf = true) (hc : (Lit.float .f64 c).wf = true) (hh : (Lit.float .f64 h).wf = true) (hT : TB w) :
    Calls Tryd.prog 3 #[.float .f64 l, .float .f64 c, .float .f64 h] w fun e w' => e = .returned (.bool true) ∧ Below w.heap.size w w' := by
  have lc : c < 2 ^ 64 := by simpa [Lit.wf] using hc
  obtain ⟨u, hu, HC0⟩ := cosA (fop .mul h 4580687790476533049) (mul_lt _ _)
  obtain ⟨v, hv, hv0, HS0⟩ := sinA (fop .mul h 4580687790476533049) (mul_lt _ _)
  have HC : One 19 (fop .mul h 4580687790476533049) u := fun w x' he hT => HC0 w x' he hT.1 hT.2
  have HS : One 21 (fop .mul h 4580687790476533049) v := fun w x' he hT => HS0 w x' he hT.1 hT.2
  have Z := fun c' W (hW : Below w.heap.size w W) => zzT l c' h u v W (hT.below hW (Nat.le_refl _)) HC HS
  have ZG := fun c' (g : Good u v c') W (hW : Below w.heap.size w W) => zzG l c' h u v W (hT.below hW (Nat.le_refl _)) HC HS g
  have N1 := fop_neg u c
  have N2 := fop_neg v c
  clear HC0 HS0 HC HS
  cases fc : (geB c 18442240474082181119 && leB c 9218868437227405311)
  · cases g1 : geB (absAny c) 1614679632300144556
    · exact x1 l c h _ _ _ _ w (Z c) (Z _) N1 N2 fc g1
    cases g2 : leB (absAny c) 9094988921128908188
    · exact x2 l c h _ _ _ _ w (Z c) (Z _) N1 N2 fc g1 g2
    · exfalso
      have fcc := (chr_of g1 g2).1
      have k := fin_max fcc
      have e1 : geB c 18442240474082181119 = true := by
        have : (Ieee.double.order c 18442240474082181119 == some .gt || Ieee.double.order c 18442240474082181119 == some .eq) = true := by
          rw [ge_iff fcc fMin, decide_eq_true_iff]
          have : rv 18442240474082181119 = - rv 9218868437227405311 := by decide +kernel
          grind
        exact this
      have e2 : leB c 9218868437227405311 = true := by
        have : (Ieee.double.order c 9218868437227405311 == some .lt || Ieee.double.order c 9218868437227405311 == some .eq) = true := by
          rw [le_iff fcc fMax, decide_eq_true_iff]
          exact k.1
        exact this
      rw [e1, e2] at fc
      cases fc
  have fcc := fin_of fc
  -- the third call, where the chroma and the hue are moderate
  have full : geB (absAny c) 1614679632300144556 = true → leB (absAny c) 9094988921128908188 = true → Hue h →
      ∃ cc d d', (Good u v c ∧ Good u v (Op.negFloat .f64 c) ∧ Good u v cc) ∧ (∀ (t : TypeId) (w : World), (binOp .mul t (.float .f64 4611686018427387904) (.float .f64 c)).run Tryd.prog w = .ok (.float .f64 cc) w) ∧
        (∀ (t : TypeId) (w : World), (binOp .mul t (.float .f64 4611686018427387904) (.float .f64 (fop .mul u c))).run Tryd.prog w = .ok (.float .f64 d) w) ∧ (∀ (t : TypeId) (w : World), (binOp .mul t (.float .f64 4611686018427387904) (.float .f64 (fop .mul v c))).run Tryd.prog w = .ok (.float .f64 d') w) ∧
        (FloatKind.f64.format.order (fop .mul u cc) d == some .eq) = true ∧ (FloatKind.f64.format.order (fop .mul v cc) d' == some .eq) = true := by
    intro g1 g2 hue
    have chr := chr_of g1 g2
    have hm := (hue_mod hue).1
    have tb := ten_big
    have tp := ten_pos
    obtain ⟨c2, hc2, f2, e2⟩ := mul_two chr.1 (by have := chr.2.1; grind) (by have := chr.2.2.1; grind)
    obtain ⟨p, q, r, d, hp, hq, hr, hd, s1, s2⟩ := lin (hu hm).1 chr (by decide) f2 e2
    obtain ⟨p', q', r', d', hp', hq', hr', hd', s1', s2'⟩ := lin (hv hm) chr (by decide) f2 e2
    obtain rfl := fop_some hp
    obtain rfl := fop_some hq
    obtain rfl := fop_some hp'
    obtain rfl := fop_some hq'
    have G1 : Good u v c := ⟨two_num hd, two_num hd'⟩
    exact ⟨c2, d, d', ⟨G1, good_neg G1, ord_num s1, ord_num s1'⟩, fun t w => run_float_arith w .mul t .f64 _ _ _ hc2, fun t w => run_float_arith w .mul t .f64 _ _ _ hd, fun t w => run_float_arith w .mul t .f64 _ _ _ hd', s1, s1'⟩
  cases hz : (FloatKind.f64.format.order h 0 == some .eq)
  · cases g1 : geB (absAny c) 1614679632300144556
    · exact x3 l c h _ _ _ _ w (Z c) (Z _) N1 N2 fc hz g1
    cases g2 : leB (absAny c) 9094988921128908188
    · exact x4 l c h _ _ _ _ w (Z c) (Z _) N1 N2 fc hz g1 g2
    cases g3 : geB h 13920209183539462144
    · exact x5 l c h _ _ _ _ w (Z c) (Z _) N1 N2 fc hz g1 g2 g3
    cases g4 : leB h 4696837146684686336
    · exact x6 l c h _ _ _ _ w (Z c) (Z _) N1 N2 fc hz g1 g2 g3 g4
    cases g5 : geB (absAny h) 3260689527820848751
    · exact x7 l c h _ _ _ _ w (Z c) (Z _) N1 N2 fc hz g1 g2 g3 g4 g5
    obtain ⟨cc, d, d', ⟨G1, G2, G3⟩, M1, M2, M3, q1, q2⟩ := full g1 g2 (hue_of g3 g4 g5)
    exact f2 l c h cc _ _ _ _ _ _ d d' w (ZG c G1) (ZG _ G2) N1 N2 (ZG cc G3) M1 M2 M3 q1 q2 fc hz g1 g2 g3 g4 g5
  · have hue := hue_zero hz
    obtain ⟨hm, ht0⟩ := hue_mod hue
    have hr0 := ht0 (fin_zero hz).2
    have hu1 := hu hm
    have e1 := one_mul hu1.1.1 (hu1.2 hr0) fcc lc
    have eA := fop_some e1
    obtain ⟨fv, rv0⟩ := hv0 hm.2.1 hr0
    obtain ⟨z, hz2, rz, -, -⟩ := mul_rnd fv fcc (by rw [rv0, Rat.zero_mul]; have := p2_pos 1023; grind) (by rw [rv0, Rat.zero_mul]; have := p2_pos 1023; grind)
    have z0 := rz.zero (by rw [rv0, Rat.zero_mul])
    have eB : fop .mul v c = z := fop_some hz2
    have z1 : (FloatKind.f64.format.order (fop .mul u c) c == some .eq) = true := by rw [eA]; exact ord_self (not_nan fcc)
    have z2 : (FloatKind.f64.format.order (fop .mul v c) 0 == some .eq) = true := by
      show (Ieee.double.order _ _ == some .eq) = true
      rw [eB, eq_iff rz.fin fZ, decide_eq_true_iff, z0, vZ]
    have G1 : Good u v c := ⟨by rw [eA]; exact not_nan fcc, by rw [eB]; exact not_nan rz.fin⟩
    have G2 := good_neg G1
    cases g1 : geB (absAny c) 1614679632300144556
    · exact F64.e1 l c h _ _ _ _ w (ZG c G1) (ZG _ G2) N1 N2 z1 z2 fc hz g1
    cases g2 : leB (absAny c) 9094988921128908188
    · exact e2 l c h _ _ _ _ w (ZG c G1) (ZG _ G2) N1 N2 z1 z2 fc hz g1 g2
    cases g3 : geB h 13920209183539462144
    · exact e3 l c h _ _ _ _ w (ZG c G1) (ZG _ G2) N1 N2 z1 z2 fc hz g1 g2 g3
    cases g4 : leB h 4696837146684686336
    · exact e4 l c h _ _ _ _ w (ZG c G1) (ZG _ G2) N1 N2 z1 z2 fc hz g1 g2 g3 g4
    obtain ⟨cc, d, d', ⟨-, -, G3⟩, M1, M2, M3, q1, q2⟩ := full g1 g2 hue
    exact f1 l c h cc _ _ _ _ _ _ d d' w (ZG c G1) (ZG _ G2) N1 N2 (ZG cc G3) M1 M2 M3 q1 q2 z1 z2 fc hz g1 g2 g3 g4
end Go.Proofs.YtpkhfknjajehnaaDoor.F64
