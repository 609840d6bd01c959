/- ZZlabToXyz and FnLabToXyzChannelsSeparateAndMonotone. Printed by gen_lablaw.py. -/
import Derived.Test.YtkeagmiolapgpaaLabPlain
namespace Go.Proofs.Ytkeagmiolapgpaa.F64
open Go.RowKit Go.Proofs.Ytkeagmiolapgpaa.FL
theorem labF {l f : Nat} (fl : FL.Fin l) (h1 : -1000 ≤ rv l) (h2 : rv l ≤ 1000) (h : LabF l f) : FL.Fin f ∧ (-9 ≤ rv f ∧ rv f ≤ 9) ∧ ∀ f', LabF l f' → f' = f := by
  obtain ⟨q, q1, q2⟩ := h
  obtain ⟨R1, D1⟩ := rn_add q1 fl f16 (by rw [v16]; unfold big; grind) (by rw [v16]; unfold big; grind)
  rw [v16] at R1
  have b1 := R1.bd 1016 (by decide) (by constructor <;> grind)
  have ed : rv q / rv 4637863191261478912 = rv q * (1 / 116) := by rw [v116]; grind
  obtain ⟨R2, D2⟩ := rn_quo q2 R1.fin f116 (by rw [v116]; decide) (by rw [ed]; unfold big; grind) (by rw [ed]; unfold big; grind)
  rw [ed] at R2
  have b2 := rbd R2 9 (by decide) (by constructor <;> grind)
  refine ⟨R2.fin, by constructor <;> grind, ?_⟩
  rintro f' ⟨q', k1, k2⟩
  rw [D1 q' k1] at k2
  exact D2 f' k2
theorem f0R {a f g : Nat} (fa : FL.Fin a) (h1 : -1000 ≤ rv a) (h2 : rv a ≤ 1000) (ff : FL.Fin f) (fb : -9 ≤ rv f ∧ rv f ≤ 9) (h : F0R a f g) : ∃ q, (Res .quo a 4647503709213818880 q ∧ -2 ≤ rv a / rv 4647503709213818880 ∧ rv a / rv 4647503709213818880 ≤ 2) ∧ RN (rv q + rv f) g ∧ Sm g ∧ ∀ g', F0R a f g' → g' = g := by
  obtain ⟨q, q1, q2⟩ := h
  have ed : rv a / rv 4647503709213818880 = rv a * (1 / 500) := by rw [v500]; grind
  obtain ⟨R1, D1⟩ := rn_quo q1 fa f500 (by rw [v500]; decide) (by rw [ed]; unfold big; grind) (by rw [ed]; unfold big; grind)
  rw [ed] at R1
  have b1 := rbd R1 2 (by decide) (by constructor <;> grind)
  obtain ⟨R2, D2⟩ := rn_add q2 R1.fin ff (by unfold big; grind) (by unfold big; grind)
  have b2 := R2.bd 14 (by decide) (by constructor <;> grind)
  refine ⟨q, ⟨q1, by rw [ed]; grind, by rw [ed]; grind⟩, R2, ⟨R2.fin, by grind, by grind⟩, ?_⟩
  rintro f' ⟨q', k1, k2⟩
  rw [D1 q' k1] at k2
  exact D2 f' k2
theorem f2R {b f k : Nat} (fa : FL.Fin b) (h1 : -1000 ≤ rv b) (h2 : rv b ≤ 1000) (ff : FL.Fin f) (fb : -9 ≤ rv f ∧ rv f ≤ 9) (h : F2R b f k) : ∃ q, (Res .quo b 4641240890982006784 q ∧ -5 ≤ rv b / rv 4641240890982006784 ∧ rv b / rv 4641240890982006784 ≤ 5) ∧ RN (rv f - rv q) k ∧ Sm k ∧ ∀ k', F2R b f k' → k' = k := by
  obtain ⟨q, q1, q2⟩ := h
  have ed : rv b / rv 4641240890982006784 = rv b * (1 / 200) := by rw [v200]; grind
  obtain ⟨R1, D1⟩ := rn_quo q1 fa f200 (by rw [v200]; decide) (by rw [ed]; unfold big; grind) (by rw [ed]; unfold big; grind)
  rw [ed] at R1
  have b1 := rbd R1 5 (by decide) (by constructor <;> grind)
  obtain ⟨R2, D2⟩ := rn_sub q2 ff R1.fin (by unfold big; grind) (by unfold big; grind)
  have b2 := R2.bd 14 (by decide) (by constructor <;> grind)
  refine ⟨q, ⟨q1, by rw [ed]; grind, by rw [ed]; grind⟩, R2, ⟨R2.fin, by grind, by grind⟩, ?_⟩
  rintro f' ⟨q', k1, k2⟩
  rw [D1 q' k1] at k2
  exact D2 f' k2
theorem yR {l y : Nat} (fl : FL.Fin l) (h1 : -1000 ≤ rv l) (h2 : rv l ≤ 1000) (h : YR l y) : FL.Fin y ∧ ∀ y', YR l y' → y' = y := by
  unfold YR at h ⊢
  split at h
  · rename_i hc
    obtain ⟨q, q1, q2⟩ := h
    obtain ⟨ff, fb, FD⟩ := labF fl h1 h2 q1
    obtain ⟨_, _, R, -, -, CD⟩ := cub ⟨ff, by grind, by grind⟩ q2
    refine ⟨R.fin, fun y' hy => ?_⟩
    rw [if_pos hc] at hy
    obtain ⟨q', k1, k2⟩ := hy
    rw [FD q' k1] at k2
    exact CD y' k2
  · rename_i hc
    have vk := vkap
    have db := div_bd (a := rv l) (k := rv 4651156694067819558) (N := 1000) (by grind) (by constructor <;> grind)
    obtain ⟨R, D⟩ := rn_quo h fl fkap (by grind) (by unfold big; grind) (by unfold big; grind)
    refine ⟨R.fin, fun y' hy => ?_⟩
    rw [if_neg hc] at hy
    exact D y' hy
theorem LabR.parts {l a b X Y Z : Nat} (h : LabR l a b X Y Z) : ∃ f g k, LabF l f ∧ F0R a f g ∧ F2R b f k ∧ ChR 4606860822843362778 g X ∧ YR l Y ∧ ChR 4605607101106091996 k Z := by
  obtain ⟨f, g, k, c, e, x, z, h1, h2, h3, h4, h5, h6, h7, h8, h9, h10⟩ := h
  exact ⟨f, g, k, h1, h2, h3, ⟨c, x, h4, h6, h9⟩, h7, ⟨e, z, h5, h8, h10⟩⟩
def In1000 (x : Nat) : Prop := FL.Fin x ∧ -1000 ≤ rv x ∧ rv x ≤ 1000 ∧ x < 2 ^ 64
theorem labs {l a1 a2 b1 b2 X1 Y1 Z1 X2 Y2 Z2 X3 Y3 Z3 : Nat} (hl : In1000 l) (ha1 : In1000 a1) (ha2 : In1000 a2) (hb1 : In1000 b1) (hb2 : In1000 b2) (hA : rv a1 ≤ rv a2) (hB : rv b1 ≤ rv b2)
    (c1 : LabR l a1 b1 X1 Y1 Z1) (c2 : LabR l a2 b1 X2 Y2 Z2) (c3 : LabR l a1 b2 X3 Y3 Z3) :
    (Y2 = Y1 ∧ Z2 = Z1 ∧ X3 = X1 ∧ Y3 = Y1) ∧ (FL.Fin X1 ∧ FL.Fin X2 ∧ FL.Fin Y1 ∧ FL.Fin Z1 ∧ FL.Fin Z3) ∧ (-3000 ≤ rv X2 ∧ rv X2 ≤ 3000) ∧ (-3000 ≤ rv Z1 ∧ rv Z1 ≤ 3000) ∧ rv X1 ≤ rv X2 + 1/10^13 ∧ rv Z3 ≤ rv Z1 + 1/10^13 := by
  obtain ⟨f, g1, k1, F1, G1, K1, x1, y1, z1⟩ := c1.parts
  obtain ⟨f', g2, k2, F2, G2, K2, x2, y2, z2⟩ := c2.parts
  obtain ⟨f'', g3, k3, F3, G3, K3, x3, y3, z3⟩ := c3.parts
  obtain ⟨ff, fb, FD⟩ := labF hl.1 hl.2.1 hl.2.2.1 F1
  obtain rfl := FD f' F2
  obtain rfl := FD f'' F3
  obtain ⟨qa, Ra, Rg, sg1, GD⟩ := f0R ha1.1 ha1.2.1 ha1.2.2.1 ff fb G1
  obtain rfl := GD g3 G3
  obtain ⟨qa2, Ra2, Rg2, sg2, -⟩ := f0R ha2.1 ha2.2.1 ha2.2.2.1 ff fb G2
  obtain ⟨qb, Rb, Rk, sk1, KD⟩ := f2R hb1.1 hb1.2.1 hb1.2.2.1 ff fb K1
  obtain rfl := KD k2 K2
  obtain ⟨qb3, Rb3, Rk3, sk3, -⟩ := f2R hb2.1 hb2.2.1 hb2.2.2.1 ff fb K3
  obtain ⟨fy, YD⟩ := yR hl.1 hl.2.1 hl.2.2.1 y1
  obtain ⟨_, _, _, _, _, _, RX1, _, XD⟩ := chan fdx vdx sg1 x1
  obtain ⟨_, _, _, _, _, _, RZ1, bz, ZD⟩ := chan fdz vdz sk1 z1
  obtain ⟨_, _, _, _, _, _, RX2, bx, _⟩ := chan fdx vdx sg2 x2
  obtain ⟨_, _, _, _, _, _, RZ3, _, _⟩ := chan fdz vdz sk3 z3
  have ga := quo_mono ha1.2.2.2 ha2.2.2.2 ha1.1 ha2.1 f500 (by rw [v500]; decide) Ra.1 Ra2.1 ⟨by unfold big; grind, by unfold big; grind⟩ ⟨by unfold big; grind, by unfold big; grind⟩ hA
  have gg := Rg.mono Rg2 (by grind)
  have kb := quo_mono hb1.2.2.2 hb2.2.2.2 hb1.1 hb2.1 f200 (by rw [v200]; decide) Rb.1 Rb3.1 ⟨by unfold big; grind, by unfold big; grind⟩ ⟨by unfold big; grind, by unfold big; grind⟩ hB
  have kk := Rk3.mono Rk (by grind)
  exact ⟨⟨YD _ y2, ZD _ z2, XD _ x3, YD _ y3⟩, ⟨RX1.fin, RX2.fin, fy, RZ1.fin, RZ3.fin⟩, bx, bz, ch_mono fdx vdx sg1 sg2 x1 x2 gg, ch_mono fdz vdz sk3 sk1 z3 z1 kk⟩

def absw (x : Nat) : Nat := if (Ieee.double.order x 0 == some .lt) then Op.negFloat .f64 x else x
theorem fin_zero : FL.Fin 0 := by unfold FL.Fin; omega
theorem rv_zero : rv 0 = 0 := rv_word_zero false
theorem absw_spec {x : Nat} (h : FL.Fin x) : FL.Fin (absw x) ∧ 0 ≤ rv (absw x) ∧ (rv (absw x) = rv x ∨ rv (absw x) = - rv x) := by
  unfold absw
  rw [lt_iff h fin_zero, rv_zero]
  split
  · rename_i hc; have hc : rv x < 0 := by simpa using hc
    have e : Op.negFloat .f64 x = x ^^^ 2 ^ 63 := rfl
    rw [e, neg_rv h]
    exact ⟨neg_fin h, by grind, .inr rfl⟩
  · rename_i hc; have hc : ¬ rv x < 0 := by simpa using hc
    exact ⟨h, by grind, .inl rfl⟩
theorem f1w : FL.Fin 4607182418800017408 := by unfold FL.Fin; decide
theorem v1w : rv 4607182418800017408 = 1 := by decide +kernel
theorem f12w : FL.Fin 4427486594234968593 := by unfold FL.Fin; decide
theorem v12w : 1/10^13 ≤ rv 4427486594234968593 ∧ rv 4427486594234968593 ≤ 1/10^11 := by decide +kernel
/-- The law's slack. -/
theorem slack {x y : Nat} (fx : FL.Fin x) (fy : FL.Fin y) (b : -3000 ≤ rv y ∧ rv y ≤ 3000) (h : rv x ≤ rv y + 1/10^13) :
    ∃ s p t, floatBits .add .f64 4607182418800017408 (absw y) = some s ∧ floatBits .mul .f64 4427486594234968593 s = some p ∧ floatBits .add .f64 y p = some t ∧ (FloatKind.f64.format.order x t == some .gt) = false := by
  have hb := big_le
  obtain ⟨fa, a0, ab⟩ := absw_spec fy
  obtain ⟨s, e1, R1, N1⟩ := add_rnd f1w fa (by rw [v1w]; grind) (by rw [v1w]; grind)
  rw [v1w] at R1 N1
  have R1 : RN (1 + rv (absw y)) s := ⟨R1, N1⟩
  have s1 := R1.ge 1 (by decide) (by decide) (by show (1 : Rat) ≤ _; grind)
  have s2 := R1.le 3001 (by decide) (by decide) (by show _ ≤ (3001 : Rat); grind)
  have s1 : (1 : Rat) ≤ rv s := s1
  have s2 : rv s ≤ (3001 : Rat) := s2
  obtain ⟨vc1, vc2⟩ := v12w
  have m := mul_abs (x := rv 4427486594234968593) (d := rv s) (X := 1) (E := 3001) (by grind) (by grind) (by grind) s2
  obtain ⟨p, e2, R2, -⟩ := mul_rnd f12w R1.fin (by grind) (by grind)
  have m2 := Rat.mul_nonneg (a := rv 4427486594234968593) (b := rv s - 1) (by grind) (by grind)
  have p1 := R2.above _ f12w (by grind)
  have p2 := R2.err 3001 (by grind) (by grind)
  have hu := u53_eq
  have he := eta_le
  rw [hu] at p2
  obtain ⟨t, e3, R3, -⟩ := add_rnd fy R2.fin (by grind) (by grind)
  have t1 := R3.above _ fx (by grind)
  refine ⟨s, p, t, e1, e2, e3, ?_⟩
  have := gt_iff fx R3.fin
  rw [show FloatKind.f64.format.order x t = Ieee.double.order x t from rfl, this]
  simp
  grind
theorem order_self {x : Nat} (h : FL.Fin x) : FloatKind.f64.format.order x x = some .eq := by
  rcases order_fin h h with ⟨h, _⟩ | ⟨_, h⟩ | ⟨h, _⟩
  · grind
  · exact h
  · grind

def inB (x lo hi : Nat) : Bool := (FloatKind.f64.format.order x lo == some .gt || FloatKind.f64.format.order x lo == some .eq) && (FloatKind.f64.format.order x hi == some .lt || FloatKind.f64.format.order x hi == some .eq)
theorem zzIn (x lo hi : Nat) (w : World) : Calls Try.prog 5 #[.float .f64 x, .float .f64 lo, .float .f64 hi] w fun e w' => e = .returned (.bool (inB x lo hi)) ∧ w = w' := by
  unfold inB
  cases h1 : (FloatKind.f64.format.order x lo == some .gt || FloatKind.f64.format.order x lo == some .eq)
  · go_enter Try.func5, Try.ntmps5
    go_wp2
    go_ret
    exact ⟨rfl, rfl⟩
  · go_enter Try.func5, Try.ntmps5
    go_wp2
    go_ret
    exact ⟨rfl, rfl⟩
theorem zzAbs (x : Nat) (w : World) : Calls Try.prog 8 #[.float .f64 x] w fun e w' => e = .returned (.float .f64 (absw x)) ∧ w = w' := by
  unfold absw
  cases h1 : (Ieee.double.order x 0 == some .lt)
  · have h1' : (FloatKind.f64.format.order x 0 == some .lt) = false := h1
    go_enter Try.func8, Try.ntmps8
    go_wp2
    go_ret
    exact ⟨rfl, rfl⟩
  · have h1' : (FloatKind.f64.format.order x 0 == some .lt) = true := h1
    go_enter Try.func8, Try.ntmps8
    go_wp2
    go_ret
    exact ⟨rfl, rfl⟩
theorem f1000 : FL.Fin 4652007308841189376 := by unfold FL.Fin; decide
theorem v1000 : rv 4652007308841189376 = 1000 := by decide +kernel
theorem fn1000 : FL.Fin 13875379345695965184 := by unfold FL.Fin; decide
theorem vn1000 : rv 13875379345695965184 = -1000 := by decide +kernel
theorem inB_true {x : Nat} (hx : x < 2 ^ 64) (h : inB x 13875379345695965184 4652007308841189376 = true) : In1000 x := by
  unfold inB at h
  rw [Bool.and_eq_true] at h
  have fx : FL.Fin x := fin_between fn1000 f1000 h.1 h.2
  have l1 : rv 13875379345695965184 ≤ rv x := by simpa using (ge_iff fx fn1000).symm.trans h.1
  have l2 : rv x ≤ rv 4652007308841189376 := by simpa using (le_iff fx f1000).symm.trans h.2
  rw [vn1000] at l1
  rw [v1000] at l2
  exact ⟨fx, l1, l2, hx⟩

def ZInv (w w4 : World) (r0 r1 r2 : Nat) (w' : World) : Prop :=
  Below w.heap.size w w' ∧ w'.cell? ⟨w4.heap.size, 0, none⟩ = some (.float .f64 r0) ∧ w'.cell? ⟨w4.heap.size + 1, 0, none⟩ = some (.float .f64 r1) ∧ w'.cell? ⟨w4.heap.size + 1 + 1, 0, none⟩ = some (.float .f64 r2) ∧ w4.heap.size + 1 + 1 < w'.heap.size
theorem ZInv.step {w w4 : World} {r0 r1 r2 : Nat} {w1 w2 : World} (h : ZInv w w4 r0 r1 r2 w1) (hb : Below w1.heap.size w1 w2) : ZInv w w4 r0 r1 r2 w2 := by
  obtain ⟨hB, x0, x1, x2, x3⟩ := h
  have hc : ∀ b o, b < w1.heap.size → w2.cell? ⟨b, o, none⟩ = w1.cell? ⟨b, o, none⟩ := fun b o h => hb.cell (p := ⟨b, o, none⟩) h
  have hz := hb.size
  have hBz := hB.size
  exact ⟨hB.trans (hb.mono (by omega)), by rw [hc _ _ (by omega)]; exact x0, by rw [hc _ _ (by omega)]; exact x1, by rw [hc _ _ (by omega)]; exact x2, by omega⟩
theorem ZInv.start (w w4 : World) (r0 r1 r2 t : Nat) (hB : Below w.heap.size w w4) :
    ZInv w w4 r0 r1 r2 (((w4.alloc (.cells #[.float .f64 r0] t)).alloc (.cells #[.float .f64 r1] t)).alloc (.cells #[.float .f64 r2] t)).drew := by
  have hz := hB.size
  refine ⟨(((hB.alloc (by omega) _).alloc (by simp; omega) _).alloc (by simp; omega) _).drew, ?_⟩
  simp [go_sem]

set_option maxRecDepth 100000 in
set_option maxHeartbeats 1000000 in
theorem zzLab (x y z : Nat) (w : World) :
    Calls Try.prog 10 #[.float .f64 x, .float .f64 y, .float .f64 z] w
      fun e w' => ∃ r g b, LabR x y z r g b ∧ e = .returned (.tuple #[.float .f64 r, .float .f64 g, .float .f64 b]) ∧ Below w.heap.size w w' := by
  go_enter Try.func10, Try.ntmps10
  go_wp2_with fail
  refine (newF64 x _).mono ?_
  rintro e w1 ⟨rfl, hb1⟩
  go_wp2_with fail
  refine (newF64 y _).mono ?_
  rintro e w2 ⟨rfl, hb2⟩
  go_wp2_with fail
  refine (newF64 z _).mono ?_
  rintro e w3 ⟨rfl, hb3⟩
  go_wp2_with fail
  refine (lab x y z _).mono ?_
  rintro e w4 ⟨r0, r1, r2, hr, rfl, hb4⟩
  have HR := Lib.hid hr
  have hB : Below w.heap.size w w4 := ((hb1.trans (hb2.mono hb1.size)).trans (hb3.mono (Nat.le_trans hb1.size hb2.size))).trans (hb4.mono (Nat.le_trans (Nat.le_trans hb1.size hb2.size) hb3.size))
  clear hr hb1 hb2 hb3 hb4
  have hsz := hB.size
  go_wp2_with fail
  have STEP := Lib.hid (fun w1 w2 (h : ZInv w w4 r0 r1 r2 w1) (hb : Below w1.heap.size w1 w2) => h.step hb)
  have START := Lib.hid (ZInv.start w w4 r0 r1 r2 29 hB)
  go_region_held3 (fun w' => Below w.heap.size w w' ∧ w'.cell? ⟨w4.heap.size, 0, none⟩ = some (.float .f64 r0) ∧ w'.cell? ⟨w4.heap.size + 1, 0, none⟩ = some (.float .f64 r1) ∧ w'.cell? ⟨w4.heap.size + 1 + 1, 0, none⟩ = some (.float .f64 r2) ∧ w4.heap.size + 1 + 1 < w'.heap.size)
    (first | assumption | exact START.out)
    (first | (go_at_call 13; refine (value _ _).mono ?_; rintro e w1 ⟨rfl, hb⟩; have hI := STEP.out _ _ (by assumption) hb; unfold ZInv at hI; clear hb))
  go_wp2
  go_ret3
  exact ⟨r0, r1, r2, HR.out, rfl, And.left (show ZInv w w4 r0 r1 r2 _ by assumption)⟩
end Go.Proofs.Ytkeagmiolapgpaa.F64
