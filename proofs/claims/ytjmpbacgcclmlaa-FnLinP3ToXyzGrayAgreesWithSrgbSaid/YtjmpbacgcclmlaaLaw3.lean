/- FnLinP3ToXyzGrayAgreesWithSrgb returns true. -/
import Derived.Test.YtjmpbacgcclmlaaGray
namespace Go.Proofs.Ytjmpbacgcclmlaa.F64
open Go.RowKit Go.Proofs.Ytjmpbacgcclmlaa.FL
set_option maxRecDepth 100000 in
set_option maxHeartbeats 2000000 in
theorem law3 (t : Nat) (w : World) (_ht : (Lit.float .f64 t).wf = true) : Calls Try.prog 3 #[.float .f64 t] w fun e w' => e = .returned (.bool true) ∧ Below w.heap.size w w' := by
  cases hin : ((Ieee.double.order t 13920209183539462144 == some .gt || Ieee.double.order t 13920209183539462144 == some .eq) && (Ieee.double.order t 4696837146684686336 == some .lt || Ieee.double.order t 4696837146684686336 == some .eq))
  · have H := Lib.hid hin
    clear hin
    go_enter Try.func3, Try.ntmps3
    go_wp2_with fail
    refine (zzIn t _ _ _).mono ?_
    rintro e w' ⟨rfl, rfl⟩
    rw [H.out]
    go_wp2_with fail
    go_ret
    exact ⟨rfl, Below.refl _ _⟩
  · have ht : FL.Fin t := by
      simp only [Bool.and_eq_true] at hin
      exact fin_between f13920209183539462144 f4696837146684686336 hin.1 hin.2
    have hx : rv (absw t) ≤ 1000000 := by
      have hin2 := hin
      simp only [Bool.and_eq_true] at hin2
      rw [ge_iff ht f13920209183539462144, le_iff ht f4696837146684686336, v13920209183539462144, v4696837146684686336] at hin2
      simp only [decide_eq_true_eq] at hin2
      rcases (absw_rv ht).2.2.2 with h | h <;> grind
    have HG := Lib.hid (gray ht hx)
    have HT := Lib.hid (tol_ok ht hx)
    have HF := Lib.hid ht
    have H := Lib.hid hin
    clear hin ht hx
    go_enter Try.func3, Try.ntmps3
    go_wp2_with fail
    refine (zzIn t _ _ _).mono ?_
    rintro e w' ⟨rfl, rfl⟩
    rw [H.out]
    go_wp2_with fail
    refine (ZZlinP3ToXyz_n011_225 t t t _ HG.out.1).mono ?_
    rintro e w1 ⟨rfl, hb1⟩
    go_wp2_with fail
    refine (ZZlinSrgbToXyz_n011_225 t t t _ HG.out.2.1).mono ?_
    rintro e w2 ⟨rfl, hb2⟩
    go_wp2_with fail
    refine (zzAbs t _ HF.out).mono ?_
    rintro e w3 ⟨rfl, rfl⟩
    have r1 := fun (ty : TypeId) (w : World) => run_float_arith (P := Try.prog) w .add ty .f64 4607182418800017408 (absw t) _ (fo_some HT.out.1)
    have r2 := fun (ty : TypeId) (w : World) => run_float_arith (P := Try.prog) w .mul ty .f64 4472406533629990549 _ _ (fo_some HT.out.2.1)
    go_wp2_with fail
    clear r1 r2
    refine (zzClose _ _ (tolw t) _ HG.out.2.2.1.1 HG.out.2.2.1.2.1 HT.out.2.2.1 HG.out.2.2.1.2.2.1 HG.out.2.2.1.2.2.2).mono ?_
    rintro e w3 ⟨rfl, rfl⟩
    go_wp2_with fail
    refine (zzClose _ _ (tolw t) _ HG.out.2.2.2.1.1 HG.out.2.2.2.1.2.1 HT.out.2.2.1 HG.out.2.2.2.1.2.2.1 HG.out.2.2.2.1.2.2.2).mono ?_
    rintro e w3 ⟨rfl, rfl⟩
    go_wp2_with fail
    refine (zzClose _ _ (tolw t) _ HG.out.2.2.2.2.1 HG.out.2.2.2.2.2.1 HT.out.2.2.1 HG.out.2.2.2.2.2.2.1 HG.out.2.2.2.2.2.2.2).mono ?_
    rintro e w3 ⟨rfl, rfl⟩
    go_wp2_with fail
    go_ret
    exact ⟨rfl, hb1.trans (hb2.mono hb1.size)⟩
end Go.Proofs.Ytjmpbacgcclmlaa.F64
