/- The walk of FnXyzToLinSrgbOddAndDoubling. -/
import Derived.Test.YtjmpbacgcclmlaaLaw4
namespace Go.Proofs.Ytjmpbacgcclmlaa.F64
open Go.RowKit Go.Proofs.Ytjmpbacgcclmlaa.FL
set_option maxRecDepth 100000 in
set_option maxHeartbeats 2000000 in
theorem law4 (x y z : Nat) (w : World) (_hx : (Lit.float .f64 x).wf = true) (_hy : (Lit.float .f64 y).wf = true) (_hz : (Lit.float .f64 z).wf = true) :
    Calls Try.prog 4 #[.float .f64 x, .float .f64 y, .float .f64 z] w fun e w' => e = .returned (.bool true) ∧ Below w.heap.size w w' := by
  cases hx : scalB x
  · have HX := Lib.hid hx; clear hx
    go_enter Try.func4, Try.ntmps4
    go_wp2_with fail
    refine (zzScalable x _).mono ?_
    rintro e w' ⟨rfl, rfl⟩
    rw [HX.out]
    go_wp2_with fail
    go_ret
    exact ⟨rfl, Below.refl _ _⟩
  cases hy : scalB y
  · have HX := Lib.hid hx; clear hx
    have HY := Lib.hid hy; clear hy
    go_enter Try.func4, Try.ntmps4
    go_wp2_with fail
    refine (zzScalable x _).mono ?_
    rintro e w' ⟨rfl, rfl⟩
    rw [HX.out]
    go_wp2_with fail
    refine (zzScalable y _).mono ?_
    rintro e w' ⟨rfl, rfl⟩
    rw [HY.out]
    go_wp2_with fail
    go_ret
    exact ⟨rfl, Below.refl _ _⟩
  cases hz : scalB z
  · have HX := Lib.hid hx; clear hx
    have HY := Lib.hid hy; clear hy
    have HZ := Lib.hid hz; clear hz
    go_enter Try.func4, Try.ntmps4
    go_wp2_with fail
    refine (zzScalable x _).mono ?_
    rintro e w' ⟨rfl, rfl⟩
    rw [HX.out]
    go_wp2_with fail
    refine (zzScalable y _).mono ?_
    rintro e w' ⟨rfl, rfl⟩
    rw [HY.out]
    go_wp2_with fail
    refine (zzScalable z _).mono ?_
    rintro e w' ⟨rfl, rfl⟩
    rw [HZ.out]
    go_wp2_with fail
    go_ret
    exact ⟨rfl, Below.refl _ _⟩
  have HG := Lib.hid (scaled hx hy hz)
  have HX := Lib.hid hx; clear hx
  have HY := Lib.hid hy; clear hy
  have HZ := Lib.hid hz; clear hz
  go_enter Try.func4, Try.ntmps4
  go_wp2_with fail
  refine (zzScalable x _).mono ?_
  rintro e w' ⟨rfl, rfl⟩
  rw [HX.out]
  go_wp2_with fail
  refine (zzScalable y _).mono ?_
  rintro e w' ⟨rfl, rfl⟩
  rw [HY.out]
  go_wp2_with fail
  refine (zzScalable z _).mono ?_
  rintro e w' ⟨rfl, rfl⟩
  rw [HZ.out]
  go_wp2_with fail
  refine (ZZxyzToLinSrgb_n011_225 x y z _ HG.out.1).mono ?_
  rintro e w1 ⟨rfl, hb1⟩
  go_wp2_with fail
  refine (ZZxyzToLinSrgb_n011_225 (Op.negFloat .f64 x) (Op.negFloat .f64 y) (Op.negFloat .f64 z) _ HG.out.2.1).mono ?_
  rintro e w2 ⟨rfl, hb2⟩
  have m1 := fun (ty : TypeId) (w : World) => run_float_arith (P := Try.prog) w .mul ty .f64 4611686018427387904 x _ (fo_some HG.out.2.2.2.1)
  have m2 := fun (ty : TypeId) (w : World) => run_float_arith (P := Try.prog) w .mul ty .f64 4611686018427387904 y _ (fo_some HG.out.2.2.2.2.1)
  have m3 := fun (ty : TypeId) (w : World) => run_float_arith (P := Try.prog) w .mul ty .f64 4611686018427387904 z _ (fo_some HG.out.2.2.2.2.2.1)
  go_wp2_with fail
  clear m1 m2 m3
  refine (ZZxyzToLinSrgb_n011_225 (fo .mul 4611686018427387904 x) (fo .mul 4611686018427387904 y) (fo .mul 4611686018427387904 z) _ HG.out.2.2.1).mono ?_
  rintro e w3 ⟨rfl, hb3⟩
  have k0 := fun (ty : TypeId) (w : World) => run_float_arith (P := Try.prog) w .mul ty .f64 4611686018427387904 _ _ (fo_some HG.out.2.2.2.2.2.2.1.1)
  have n0 : FloatKind.f64.format.order (row 4614480434311357498 13832974614333053062 13826025829709715685 (Op.negFloat .f64 x) (Op.negFloat .f64 y) (Op.negFloat .f64 z)) (Op.negFloat .f64 (row 4614480434311357498 13832974614333053062 13826025829709715685 x y z)) = some .eq := HG.out.2.2.2.2.2.2.1.2.1
  have d0 : FloatKind.f64.format.order (row 4614480434311357498 13832974614333053062 13826025829709715685 (fo .mul 4611686018427387904 x) (fo .mul 4611686018427387904 y) (fo .mul 4611686018427387904 z)) (fo .mul 4611686018427387904 (row 4614480434311357498 13832974614333053062 13826025829709715685 x y z)) = some .eq := HG.out.2.2.2.2.2.2.1.2.2
  have k1 := fun (ty : TypeId) (w : World) => run_float_arith (P := Try.prog) w .mul ty .f64 4611686018427387904 _ _ (fo_some HG.out.2.2.2.2.2.2.2.1.1)
  have n1 : FloatKind.f64.format.order (row 13830277426958423814 4611127425713396243 4586149535949532533 (Op.negFloat .f64 x) (Op.negFloat .f64 y) (Op.negFloat .f64 z)) (Op.negFloat .f64 (row 13830277426958423814 4611127425713396243 4586149535949532533 x y z)) = some .eq := HG.out.2.2.2.2.2.2.2.1.2.1
  have d1 : FloatKind.f64.format.order (row 13830277426958423814 4611127425713396243 4586149535949532533 (fo .mul 4611686018427387904 x) (fo .mul 4611686018427387904 y) (fo .mul 4611686018427387904 z)) (fo .mul 4611686018427387904 (row 13830277426958423814 4611127425713396243 4586149535949532533 x y z)) = some .eq := HG.out.2.2.2.2.2.2.2.1.2.2
  have k2 := fun (ty : TypeId) (w : World) => run_float_arith (P := Try.prog) w .mul ty .f64 4611686018427387904 _ _ (fo_some HG.out.2.2.2.2.2.2.2.2.1)
  have n2 : FloatKind.f64.format.order (row 4588177960434001517 13819889101593667727 4607438995690332369 (Op.negFloat .f64 x) (Op.negFloat .f64 y) (Op.negFloat .f64 z)) (Op.negFloat .f64 (row 4588177960434001517 13819889101593667727 4607438995690332369 x y z)) = some .eq := HG.out.2.2.2.2.2.2.2.2.2.1
  have d2 : FloatKind.f64.format.order (row 4588177960434001517 13819889101593667727 4607438995690332369 (fo .mul 4611686018427387904 x) (fo .mul 4611686018427387904 y) (fo .mul 4611686018427387904 z)) (fo .mul 4611686018427387904 (row 4588177960434001517 13819889101593667727 4607438995690332369 x y z)) = some .eq := HG.out.2.2.2.2.2.2.2.2.2.2
  generalize row 4614480434311357498 13832974614333053062 13826025829709715685 (Op.negFloat .f64 x) (Op.negFloat .f64 y) (Op.negFloat .f64 z) = p0 at *
  generalize row 4614480434311357498 13832974614333053062 13826025829709715685 (fo .mul 4611686018427387904 x) (fo .mul 4611686018427387904 y) (fo .mul 4611686018427387904 z) = q0 at *
  generalize row 4614480434311357498 13832974614333053062 13826025829709715685 x y z = r0 at *
  generalize row 13830277426958423814 4611127425713396243 4586149535949532533 (Op.negFloat .f64 x) (Op.negFloat .f64 y) (Op.negFloat .f64 z) = p1 at *
  generalize row 13830277426958423814 4611127425713396243 4586149535949532533 (fo .mul 4611686018427387904 x) (fo .mul 4611686018427387904 y) (fo .mul 4611686018427387904 z) = q1 at *
  generalize row 13830277426958423814 4611127425713396243 4586149535949532533 x y z = r1 at *
  generalize row 4588177960434001517 13819889101593667727 4607438995690332369 (Op.negFloat .f64 x) (Op.negFloat .f64 y) (Op.negFloat .f64 z) = p2 at *
  generalize row 4588177960434001517 13819889101593667727 4607438995690332369 (fo .mul 4611686018427387904 x) (fo .mul 4611686018427387904 y) (fo .mul 4611686018427387904 z) = q2 at *
  generalize row 4588177960434001517 13819889101593667727 4607438995690332369 x y z = r2 at *
  go_wp2_with fail
  go_ret
  exact ⟨rfl, (hb1.trans (hb2.mono hb1.size)).trans (hb3.mono (Nat.le_trans hb1.size hb2.size))⟩
end Go.Proofs.Ytjmpbacgcclmlaa.F64
