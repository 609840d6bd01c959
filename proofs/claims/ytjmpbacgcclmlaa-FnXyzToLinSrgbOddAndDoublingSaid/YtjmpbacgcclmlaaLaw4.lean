/- FnXyzToLinSrgbOddAndDoubling returns true. -/
import Derived.Test.YtjmpbacgcclmlaaLin
import Derived.Test.YtjmpbacgcclmlaaSmall
import Derived.Test.YtjmpbacgcclmlaaScale
namespace Go.Proofs.Ytjmpbacgcclmlaa.F64
open Go.RowKit Go.Proofs.Ytjmpbacgcclmlaa.FL

def absAny (x : Nat) : Nat := if (Ieee.double.order x 0 == some .lt) = true then x ^^^ 2 ^ 63 else x
theorem zzAbsAny (x : Nat) (w : World) : Calls Try.prog 8 #[.float .f64 x] w fun e w' => e = .returned (.float .f64 (absAny x)) ∧ w = w' := by
  cases hn : (Ieee.double.order x 0 == some .lt)
  · have o1 : (FloatKind.f64.format.order x 0 == some .lt) = false := hn
    have HA := Lib.hid (show absAny x = x by unfold absAny; rw [if_neg (by rw [hn]; simp)])
    clear hn
    go_enter Try.func8, Try.ntmps8
    go_wp2
    go_ret
    exact ⟨by rw [HA.out]; rfl, rfl⟩
  · have o1 : (FloatKind.f64.format.order x 0 == some .lt) = true := hn
    have HA := Lib.hid (show absAny x = Op.negFloat .f64 x by unfold absAny; rw [if_pos hn]; rfl)
    clear hn
    go_enter Try.func8, Try.ntmps8
    go_wp2
    go_ret
    exact ⟨by rw [HA.out]; rfl, rfl⟩

def inB (x : Nat) : Bool := (Ieee.double.order x 567708407528440906 == some .gt || Ieee.double.order x 567708407528440906 == some .eq) && (Ieee.double.order x 8646428874712260188 == some .lt || Ieee.double.order x 8646428874712260188 == some .eq)
def scalB (x : Nat) : Bool := (Ieee.double.order x 0 == some .eq) || inB (absAny x)

set_option maxHeartbeats 400000 in
theorem zzScalable (x : Nat) (w : World) : Calls Try.prog 10 #[.float .f64 x] w fun e w' => e = .returned (.bool (scalB x)) ∧ w = w' := by
  cases h0 : (Ieee.double.order x 0 == some .eq)
  · have o1 : (FloatKind.f64.format.order x 0 == some .eq) = false := h0
    have HS := Lib.hid (show scalB x = inB (absAny x) by unfold scalB; rw [h0]; rfl)
    clear h0
    cases h1 : (Ieee.double.order (absAny x) 567708407528440906 == some .gt || Ieee.double.order (absAny x) 567708407528440906 == some .eq)
    · have o2 : (FloatKind.f64.format.order (absAny x) 567708407528440906 == some .gt || FloatKind.f64.format.order (absAny x) 567708407528440906 == some .eq) = false := h1
      have HI := Lib.hid (show inB (absAny x) = false by unfold inB; rw [h1]; rfl)
      clear h1
      go_enter Try.func10, Try.ntmps10
      go_wp2_with fail
      refine (zzAbsAny x _).mono ?_
      rintro e w' ⟨rfl, rfl⟩
      go_wp2_with fail
      go_ret
      exact ⟨by rw [HS.out, HI.out]; rfl, rfl⟩
    · have o2 : (FloatKind.f64.format.order (absAny x) 567708407528440906 == some .gt || FloatKind.f64.format.order (absAny x) 567708407528440906 == some .eq) = true := h1
      have HI := Lib.hid (show inB (absAny x) = (FloatKind.f64.format.order (absAny x) 8646428874712260188 == some .lt || FloatKind.f64.format.order (absAny x) 8646428874712260188 == some .eq) by unfold inB; rw [h1]; rfl)
      clear h1
      go_enter Try.func10, Try.ntmps10
      go_wp2_with fail
      refine (zzAbsAny x _).mono ?_
      rintro e w' ⟨rfl, rfl⟩
      go_wp2_with fail
      go_ret
      exact ⟨by rw [HS.out, HI.out]; rfl, rfl⟩
  · have o1 : (FloatKind.f64.format.order x 0 == some .eq) = true := h0
    have HS := Lib.hid (show scalB x = true by unfold scalB; rw [h0]; rfl)
    clear h0
    go_enter Try.func10, Try.ntmps10
    go_wp2_with fail
    go_ret
    exact ⟨by rw [HS.out]; rfl, rfl⟩

theorem fc1 : FL.Fin 567708407528440906 := by unfold FL.Fin; decide
theorem fc2 : FL.Fin 8646428874712260188 := by unfold FL.Fin; decide
theorem vc1 : 1 / (10 : Rat) ^ 271 ≤ rv 567708407528440906 := by decide +kernel
theorem vc2 : rv 8646428874712260188 ≤ (10 : Rat) ^ 271 := by decide +kernel

theorem scal_ok {x : Nat} (h : scalB x = true) : FL.Fin x ∧ SC (rv x) := by
  have hz : FL.Fin 0 := by unfold FL.Fin; omega
  have h0 : rv 0 = 0 := rv_word_zero false
  unfold scalB at h
  rcases Bool.or_eq_true_iff.1 h with h | h
  · have hx : FL.Fin x := fin_between hz hz (by rw [h]; simp) (by rw [h]; simp)
    rw [eq_iff hx hz, h0] at h
    exact ⟨hx, Or.inl (by simpa using h)⟩
  · unfold inB at h
    obtain ⟨h1, h2⟩ := Bool.and_eq_true_iff.1 h
    have ha : FL.Fin (absAny x) := fin_between fc1 fc2 h1 h2
    rw [ge_iff ha fc1] at h1
    rw [le_iff ha fc2] at h2
    have k1 : rv 567708407528440906 ≤ rv (absAny x) := by simpa using h1
    have k2 : rv (absAny x) ≤ rv 8646428874712260188 := by simpa using h2
    have v1 := vc1
    have v2 := vc2
    by_cases hn : (Ieee.double.order x 0 == some .lt) = true
    · have e : absAny x = x ^^^ 2 ^ 63 := by unfold absAny; rw [if_pos hn]
      have hx : FL.Fin x := by unfold FL.Fin at ha ⊢; rw [e, xor_mod] at ha; exact ha
      rw [e, neg_rv hx] at k1 k2
      refine ⟨hx, Or.inr (Or.inr ⟨?_, ?_⟩)⟩ <;> grind
    · have e : absAny x = x := by unfold absAny; rw [if_neg hn]
      rw [e] at ha k1 k2
      refine ⟨ha, Or.inr (Or.inl ⟨?_, ?_⟩)⟩ <;> grind

theorem sc_big {v : Rat} (h : SC v) : -(20 * (10 : Rat) ^ 272) ≤ v ∧ v ≤ 20 * (10 : Rat) ^ 272 := by
  have q : (10 : Rat) ^ 271 ≤ (10 : Rat) ^ 272 := by decide +kernel
  have q2 := t2
  have q3 : (0 : Rat) < 1 / (10 : Rat) ^ 271 := by decide +kernel
  unfold SC at h
  generalize (10 : Rat) ^ 271 = U at *
  generalize (10 : Rat) ^ 272 = V at *
  rcases h with h | h | h <;> constructor <;> grind

def dw (x : Nat) : Nat := fo .mul 4611686018427387904 x

theorem f4614480434311357498 : FL.Fin 4614480434311357498 := by unfold FL.Fin; decide
theorem n4614480434311357498 : EN (rv 4614480434311357498) := by unfold EN; decide +kernel
theorem f13832974614333053062 : FL.Fin 13832974614333053062 := by unfold FL.Fin; decide
theorem n13832974614333053062 : EN (rv 13832974614333053062) := by unfold EN; decide +kernel
theorem f13826025829709715685 : FL.Fin 13826025829709715685 := by unfold FL.Fin; decide
theorem n13826025829709715685 : EN (rv 13826025829709715685) := by unfold EN; decide +kernel
theorem f13830277426958423814 : FL.Fin 13830277426958423814 := by unfold FL.Fin; decide
theorem n13830277426958423814 : EN (rv 13830277426958423814) := by unfold EN; decide +kernel
theorem f4611127425713396243 : FL.Fin 4611127425713396243 := by unfold FL.Fin; decide
theorem n4611127425713396243 : EN (rv 4611127425713396243) := by unfold EN; decide +kernel
theorem f4586149535949532533 : FL.Fin 4586149535949532533 := by unfold FL.Fin; decide
theorem n4586149535949532533 : EN (rv 4586149535949532533) := by unfold EN; decide +kernel
theorem f4588177960434001517 : FL.Fin 4588177960434001517 := by unfold FL.Fin; decide
theorem n4588177960434001517 : EN (rv 4588177960434001517) := by unfold EN; decide +kernel
theorem f13819889101593667727 : FL.Fin 13819889101593667727 := by unfold FL.Fin; decide
theorem n13819889101593667727 : EN (rv 13819889101593667727) := by unfold EN; decide +kernel
theorem f4607438995690332369 : FL.Fin 4607438995690332369 := by unfold FL.Fin; decide
theorem n4607438995690332369 : EN (rv 4607438995690332369) := by unfold EN; decide +kernel

theorem scaled {x y z : Nat} (hx : scalB x = true) (hy : scalB y = true) (hz : scalB z = true) :
    xyz_to_lin_srgbOK x y z ∧ xyz_to_lin_srgbOK (x ^^^ 2 ^ 63) (y ^^^ 2 ^ 63) (z ^^^ 2 ^ 63) ∧ xyz_to_lin_srgbOK (dw x) (dw y) (dw z) ∧ ok .mul 4611686018427387904 x ∧ ok .mul 4611686018427387904 y ∧ ok .mul 4611686018427387904 z ∧
    (ok .mul 4611686018427387904 (row 4614480434311357498 13832974614333053062 13826025829709715685 x y z) ∧ Ieee.double.order (row 4614480434311357498 13832974614333053062 13826025829709715685 (x ^^^ 2 ^ 63) (y ^^^ 2 ^ 63) (z ^^^ 2 ^ 63)) ((row 4614480434311357498 13832974614333053062 13826025829709715685 x y z) ^^^ 2 ^ 63) = some .eq ∧ Ieee.double.order (row 4614480434311357498 13832974614333053062 13826025829709715685 (dw x) (dw y) (dw z)) (dw (row 4614480434311357498 13832974614333053062 13826025829709715685 x y z)) = some .eq) ∧
    (ok .mul 4611686018427387904 (row 13830277426958423814 4611127425713396243 4586149535949532533 x y z) ∧ Ieee.double.order (row 13830277426958423814 4611127425713396243 4586149535949532533 (x ^^^ 2 ^ 63) (y ^^^ 2 ^ 63) (z ^^^ 2 ^ 63)) ((row 13830277426958423814 4611127425713396243 4586149535949532533 x y z) ^^^ 2 ^ 63) = some .eq ∧ Ieee.double.order (row 13830277426958423814 4611127425713396243 4586149535949532533 (dw x) (dw y) (dw z)) (dw (row 13830277426958423814 4611127425713396243 4586149535949532533 x y z)) = some .eq) ∧
    (ok .mul 4611686018427387904 (row 4588177960434001517 13819889101593667727 4607438995690332369 x y z) ∧ Ieee.double.order (row 4588177960434001517 13819889101593667727 4607438995690332369 (x ^^^ 2 ^ 63) (y ^^^ 2 ^ 63) (z ^^^ 2 ^ 63)) ((row 4588177960434001517 13819889101593667727 4607438995690332369 x y z) ^^^ 2 ^ 63) = some .eq ∧ Ieee.double.order (row 4588177960434001517 13819889101593667727 4607438995690332369 (dw x) (dw y) (dw z)) (dw (row 4588177960434001517 13819889101593667727 4607438995690332369 x y z)) = some .eq) := by
  obtain ⟨gx, sx⟩ := scal_ok hx
  obtain ⟨gy, sy⟩ := scal_ok hy
  obtain ⟨gz, sz⟩ := scal_ok hz
  obtain ⟨ox, fx, ex⟩ := two_mul_ok gx (sc_big sx).1 (sc_big sx).2
  obtain ⟨oy, fy, ey⟩ := two_mul_ok gy (sc_big sy).1 (sc_big sy).2
  obtain ⟨oz, fz, ez⟩ := two_mul_ok gz (sc_big sz).1 (sc_big sz).2
  obtain ⟨p0, q0, r0, F0, G0, H0, E0, D0, L0, U0⟩ := row_scale f4614480434311357498 f13832974614333053062 f13826025829709715685 gx gy gz (neg_fin gx) (neg_fin gy) (neg_fin gz) fx fy fz (neg_rv gx) (neg_rv gy) (neg_rv gz) ex ey ez sx sy sz n4614480434311357498 n13832974614333053062 n13826025829709715685
  obtain ⟨k0, K0, J0⟩ := two_mul_ok F0 L0 U0
  obtain ⟨p1, q1, r1, F1, G1, H1, E1, D1, L1, U1⟩ := row_scale f13830277426958423814 f4611127425713396243 f4586149535949532533 gx gy gz (neg_fin gx) (neg_fin gy) (neg_fin gz) fx fy fz (neg_rv gx) (neg_rv gy) (neg_rv gz) ex ey ez sx sy sz n13830277426958423814 n4611127425713396243 n4586149535949532533
  obtain ⟨k1, K1, J1⟩ := two_mul_ok F1 L1 U1
  obtain ⟨p2, q2, r2, F2, G2, H2, E2, D2, L2, U2⟩ := row_scale f4588177960434001517 f13819889101593667727 f4607438995690332369 gx gy gz (neg_fin gx) (neg_fin gy) (neg_fin gz) fx fy fz (neg_rv gx) (neg_rv gy) (neg_rv gz) ex ey ez sx sy sz n4588177960434001517 n13819889101593667727 n4607438995690332369
  obtain ⟨k2, K2, J2⟩ := two_mul_ok F2 L2 U2
  have oeq : ∀ {u v : Nat}, FL.Fin u → FL.Fin v → rv u = rv v → Ieee.double.order u v = some .eq := by
    intro u v hu hv e
    rcases order_fin hu hv with ⟨h, _⟩ | ⟨_, h⟩ | ⟨h, _⟩
    · grind
    · exact h
    · grind
  exact ⟨⟨p0, p1, p2⟩, ⟨q0, q1, q2⟩, ⟨r0, r1, r2⟩, ox, oy, oz,
    ⟨k0, oeq G0 (neg_fin F0) (by rw [E0, neg_rv F0]), oeq H0 K0 (by unfold dw; rw [J0]; exact D0)⟩,
    ⟨k1, oeq G1 (neg_fin F1) (by rw [E1, neg_rv F1]), oeq H1 K1 (by unfold dw; rw [J1]; exact D1)⟩,
    ⟨k2, oeq G2 (neg_fin F2) (by rw [E2, neg_rv F2]), oeq H2 K2 (by unfold dw; rw [J2]; exact D2)⟩⟩
end Go.Proofs.Ytjmpbacgcclmlaa.F64
