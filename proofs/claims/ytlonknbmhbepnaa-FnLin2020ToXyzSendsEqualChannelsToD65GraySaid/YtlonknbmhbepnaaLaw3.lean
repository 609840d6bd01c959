/- FnLin2020ToXyzSendsEqualChannelsToD65Gray returns true. -/
import Derived.Test.YtlonknbmhbepnaaWhite
namespace Go.Proofs.Ytlonknbmhbepnaa.F64
open Go.RowKit Go.Proofs.Ytlonknbmhbepnaa.FL
set_option maxRecDepth 100000 in
set_option maxHeartbeats 2000000 in
theorem law3 (t : Nat) (w : World) (_ht : (Lit.float .f64 t).wf = true) : Calls Try.prog 3 #[.float .f64 t] w fun e w' => e = .returned (.bool true) ∧ Below w.heap.size w w' := by
  by_cases ht : FL.Fin t
  · by_cases hx : rv (absw t) ≤ 1000000
    · have o1 : (FloatKind.f64.format.order (absw t) 4696837146684686336 == some .gt) = false := by
        have := gt_iff (absw_fin ht) f4696837146684686336
        rw [v4696837146684686336] at this
        exact this.trans (decide_eq_false (by grind))
      have HG := Lib.hid (d65 ht hx)
      have HT := Lib.hid (tol_ok ht hx)
      have HF := Lib.hid ht
      clear ht hx
      go_enter Try.func3, Try.ntmps3
      go_wp2_with fail
      refine (zzFinite t _ HF.out).mono ?_
      rintro e w1 ⟨rfl, hb1⟩
      go_wp2_with fail
      refine (zzAbs t _ HF.out).mono ?_
      rintro e w3 ⟨rfl, rfl⟩
      go_wp2_with fail
      refine (zzAbs t _ HF.out).mono ?_
      rintro e w3 ⟨rfl, rfl⟩
      have r1 := fun (ty : TypeId) (w : World) => run_float_arith (P := Try.prog) w .add ty .f64 4607182418800017408 (absw t) _ (fo_some HT.out.1)
      have r2 := fun (ty : TypeId) (w : World) => run_float_arith (P := Try.prog) w .mul ty .f64 4532020583610935537 _ _ (fo_some HT.out.2.1)
      go_wp2_with fail
      clear r1 r2
      refine (ZZLin2020ToXyz_n011_226 t t t _ HG.out.1).mono ?_
      rintro e w2 ⟨rfl, hb2⟩
      have r3 := fun (ty : TypeId) (w : World) => run_float_arith (P := Try.prog) w .mul ty .f64 t 4606736165463080392 _ (fo_some HG.out.2.1)
      have r4 := fun (ty : TypeId) (w : World) => run_float_arith (P := Try.prog) w .mul ty .f64 t 4607583499253154051 _ (fo_some HG.out.2.2.1)
      go_wp2_with fail
      refine (zzClose _ _ (tolw t) _ HG.out.2.2.2.1.1 HG.out.2.2.2.1.2.1 HT.out.2.2.1 HG.out.2.2.2.1.2.2.1 HG.out.2.2.2.1.2.2.2).mono ?_
      rintro e w3 ⟨rfl, rfl⟩
      go_wp2_with fail
      refine (zzClose _ _ (tolw t) _ HG.out.2.2.2.2.1.1 HG.out.2.2.2.2.1.2.1 HT.out.2.2.1 HG.out.2.2.2.2.1.2.2.1 HG.out.2.2.2.2.1.2.2.2).mono ?_
      rintro e w3 ⟨rfl, rfl⟩
      go_wp2_with fail
      refine (zzClose _ _ (tolw t) _ HG.out.2.2.2.2.2.1 HG.out.2.2.2.2.2.2.1 HT.out.2.2.1 HG.out.2.2.2.2.2.2.2.1 HG.out.2.2.2.2.2.2.2.2).mono ?_
      rintro e w3 ⟨rfl, rfl⟩
      go_wp2_with fail
      go_ret
      exact ⟨rfl, hb1.trans (hb2.mono hb1.size)⟩
    · have o1 : (FloatKind.f64.format.order (absw t) 4696837146684686336 == some .gt) = true := by
        have := gt_iff (absw_fin ht) f4696837146684686336
        rw [v4696837146684686336] at this
        exact this.trans (decide_eq_true (by grind))
      have HF := Lib.hid ht
      clear ht hx
      go_enter Try.func3, Try.ntmps3
      go_wp2_with fail
      refine (zzFinite t _ HF.out).mono ?_
      rintro e w1 ⟨rfl, hb1⟩
      go_wp2_with fail
      refine (zzAbs t _ HF.out).mono ?_
      rintro e w3 ⟨rfl, rfl⟩
      go_wp2_with fail
      go_ret
      exact ⟨rfl, hb1⟩
  · have HF := Lib.hid ht
    clear ht
    go_enter Try.func3, Try.ntmps3
    go_wp2_with fail
    refine (zzFiniteNo t _ HF.out).mono ?_
    rintro e w1 ⟨rfl, hb1⟩
    go_wp2_with fail
    go_ret
    exact ⟨rfl, hb1⟩
end Go.Proofs.Ytlonknbmhbepnaa.F64
