/- FnLin2020ToXyzIsUndoneByXyzToLin2020 returns true. -/
import Derived.Test.YtlonknbmhbepnaaBack
namespace Go.Proofs.Ytlonknbmhbepnaa.F64
open Go.RowKit Go.Proofs.Ytlonknbmhbepnaa.FL
theorem gtT {x : Nat} (hx : FL.Fin x) (h : ¬ rv (absw x) ≤ rv 6850974717710472879) : (FloatKind.f64.format.order (absw x) 6850974717710472879 == some .gt) = true :=
  (gt_iff (absw_fin hx) f6850974717710472879).trans (decide_eq_true (by grind))
theorem gtF {x : Nat} (hx : FL.Fin x) (h : rv (absw x) ≤ rv 6850974717710472879) : (FloatKind.f64.format.order (absw x) 6850974717710472879 == some .gt) = false :=
  (gt_iff (absw_fin hx) f6850974717710472879).trans (decide_eq_false (by grind))

set_option maxRecDepth 100000 in
set_option maxHeartbeats 2000000 in
theorem law4 (r g b : Nat) (w : World) (_hr : (Lit.float .f64 r).wf = true) (_hg : (Lit.float .f64 g).wf = true) (_hb : (Lit.float .f64 b).wf = true) :
    Calls Try.prog 4 #[.float .f64 r, .float .f64 g, .float .f64 b] w fun e w' => e = .returned (.bool true) ∧ Below w.heap.size w w' := by
  by_cases hr : FL.Fin r
  rotate_left
  · have Fr := Lib.hid hr
    clear hr
    go_enter Try.func4, Try.ntmps4
    go_wp2_with fail
    refine (zzFiniteNo r _ Fr.out).mono ?_
    rintro e w1 ⟨rfl, hb1⟩
    go_wp2_with fail
    go_ret
    exact ⟨rfl, hb1⟩
  by_cases hg : FL.Fin g
  rotate_left
  · have Fr := Lib.hid hr
    have Fg := Lib.hid hg
    clear hr hg
    go_enter Try.func4, Try.ntmps4
    go_wp2_with fail
    refine (zzFinite r _ Fr.out).mono ?_
    rintro e w1 ⟨rfl, hb1⟩
    go_wp2_with fail
    refine (zzFiniteNo g _ Fg.out).mono ?_
    rintro e w2 ⟨rfl, hb2⟩
    go_wp2_with fail
    go_ret
    exact ⟨rfl, (hb1).trans (hb2.mono (by have := hb1.size; omega))⟩
  by_cases hb : FL.Fin b
  rotate_left
  · have Fr := Lib.hid hr
    have Fg := Lib.hid hg
    have Fb := Lib.hid hb
    clear hr hg hb
    go_enter Try.func4, Try.ntmps4
    go_wp2_with fail
    refine (zzFinite r _ Fr.out).mono ?_
    rintro e w1 ⟨rfl, hb1⟩
    go_wp2_with fail
    refine (zzFinite g _ Fg.out).mono ?_
    rintro e w2 ⟨rfl, hb2⟩
    go_wp2_with fail
    refine (zzFiniteNo b _ Fb.out).mono ?_
    rintro e w3 ⟨rfl, hb3⟩
    go_wp2_with fail
    go_ret
    exact ⟨rfl, ((hb1).trans (hb2.mono (by have := hb1.size; omega))).trans (hb3.mono (by have := hb1.size; have := hb2.size; omega))⟩
  by_cases mr : rv (absw r) ≤ rv 6850974717710472879
  rotate_left
  · have o0 := gtT hr mr
    have Fr := Lib.hid hr
    have Fg := Lib.hid hg
    have Fb := Lib.hid hb
    clear hr hg hb mr
    go_enter Try.func4, Try.ntmps4
    go_wp2_with fail
    refine (zzFinite r _ Fr.out).mono ?_
    rintro e w1 ⟨rfl, hb1⟩
    go_wp2_with fail
    refine (zzFinite g _ Fg.out).mono ?_
    rintro e w2 ⟨rfl, hb2⟩
    go_wp2_with fail
    refine (zzFinite b _ Fb.out).mono ?_
    rintro e w3 ⟨rfl, hb3⟩
    go_wp2_with fail
    refine (zzAbs r _ Fr.out).mono ?_
    rintro e w9 ⟨rfl, rfl⟩
    go_wp2_with fail
    go_ret
    exact ⟨rfl, ((hb1).trans (hb2.mono (by have := hb1.size; omega))).trans (hb3.mono (by have := hb1.size; have := hb2.size; omega))⟩
  by_cases mg : rv (absw g) ≤ rv 6850974717710472879
  rotate_left
  · have o0 := gtF hr mr
    have o1 := gtT hg mg
    have Fr := Lib.hid hr
    have Fg := Lib.hid hg
    have Fb := Lib.hid hb
    clear hr hg hb mr mg
    go_enter Try.func4, Try.ntmps4
    go_wp2_with fail
    refine (zzFinite r _ Fr.out).mono ?_
    rintro e w1 ⟨rfl, hb1⟩
    go_wp2_with fail
    refine (zzFinite g _ Fg.out).mono ?_
    rintro e w2 ⟨rfl, hb2⟩
    go_wp2_with fail
    refine (zzFinite b _ Fb.out).mono ?_
    rintro e w3 ⟨rfl, hb3⟩
    go_wp2_with fail
    refine (zzAbs r _ Fr.out).mono ?_
    rintro e w9 ⟨rfl, rfl⟩
    go_wp2_with fail
    refine (zzAbs g _ Fg.out).mono ?_
    rintro e w9 ⟨rfl, rfl⟩
    go_wp2_with fail
    go_ret
    exact ⟨rfl, ((hb1).trans (hb2.mono (by have := hb1.size; omega))).trans (hb3.mono (by have := hb1.size; have := hb2.size; omega))⟩
  by_cases mb : rv (absw b) ≤ rv 6850974717710472879
  rotate_left
  · have o0 := gtF hr mr
    have o1 := gtF hg mg
    have o2 := gtT hb mb
    have Fr := Lib.hid hr
    have Fg := Lib.hid hg
    have Fb := Lib.hid hb
    clear hr hg hb mr mg mb
    go_enter Try.func4, Try.ntmps4
    go_wp2_with fail
    refine (zzFinite r _ Fr.out).mono ?_
    rintro e w1 ⟨rfl, hb1⟩
    go_wp2_with fail
    refine (zzFinite g _ Fg.out).mono ?_
    rintro e w2 ⟨rfl, hb2⟩
    go_wp2_with fail
    refine (zzFinite b _ Fb.out).mono ?_
    rintro e w3 ⟨rfl, hb3⟩
    go_wp2_with fail
    refine (zzAbs r _ Fr.out).mono ?_
    rintro e w9 ⟨rfl, rfl⟩
    go_wp2_with fail
    refine (zzAbs g _ Fg.out).mono ?_
    rintro e w9 ⟨rfl, rfl⟩
    go_wp2_with fail
    refine (zzAbs b _ Fb.out).mono ?_
    rintro e w9 ⟨rfl, rfl⟩
    go_wp2_with fail
    go_ret
    exact ⟨rfl, ((hb1).trans (hb2.mono (by have := hb1.size; omega))).trans (hb3.mono (by have := hb1.size; have := hb2.size; omega))⟩
  have M := max3w_spec (absw_fin hr) (absw_fin hg) (absw_fin hb)
  have ar := absw_rv hr
  have ag := absw_rv hg
  have ab := absw_rv hb
  have hv := v6850974717710472879
  have M0 : 0 ≤ rv (max3w (absw r) (absw g) (absw b)) := by grind
  have M1 : rv (max3w (absw r) (absw g) (absw b)) ≤ (10 : Rat) ^ 151 := by grind
  have HT := Lib.hid (tolm_ok M.1 M0 M1)
  have B0 := Lib.hid (back0 hr hg hb M0 M1 (by grind) (by grind) (by grind) (by grind) (by grind) (by grind))
  have B1 := Lib.hid (back1 hr hg hb M0 M1 (by grind) (by grind) (by grind) (by grind) (by grind) (by grind))
  have B2 := Lib.hid (back2 hr hg hb M0 M1 (by grind) (by grind) (by grind) (by grind) (by grind) (by grind))
  have hbig := t151
  have hO : lin_2020_to_xyzOK r g b := by
    generalize (10 : Rat) ^ 151 = U at *
    refine ⟨?_, ?_, ?_⟩
    · exact (row_m (m := rv (max3w (absw r) (absw g) (absw b))) f4603912427603237084 f4594378393355354008 f4595252598665090074 hr hg hb (by rw [v4603912427603237084]; decide +kernel) (by rw [v4594378393355354008]; decide +kernel) (by rw [v4595252598665090074]; decide +kernel) (by grind) (by grind) (by grind) (by grind) (by grind) (by grind) (by grind)).1
    · exact (row_m (m := rv (max3w (absw r) (absw g) (absw b))) f4598404006225602290 f4604282083269777021 f4588707099058069666 hr hg hb (by rw [v4598404006225602290]; decide +kernel) (by rw [v4604282083269777021]; decide +kernel) (by rw [v4588707099058069666]; decide +kernel) (by grind) (by grind) (by grind) (by grind) (by grind) (by grind) (by grind)).1
    · exact (row_m (m := rv (max3w (absw r) (absw g) (absw b))) f0 f4583748624285553972 f4607457071083198894 hr hg hb (by rw [v0]; decide +kernel) (by rw [v4583748624285553972]; decide +kernel) (by rw [v4607457071083198894]; decide +kernel) (by grind) (by grind) (by grind) (by grind) (by grind) (by grind) (by grind)).1
  have HO := Lib.hid hO
  have HP := Lib.hid (show xyz_to_lin_2020OK _ _ _ from ⟨B0.out.1, B1.out.1, B2.out.1⟩)
  have o0 := gtF hr mr
  have o1 := gtF hg mg
  have o2 := gtF hb mb
  have Fr := Lib.hid hr
  have Fg := Lib.hid hg
  have Fb := Lib.hid hb
  clear M M0 M1 ar ag ab hv hO hbig hr hg hb mr mg mb
  go_enter Try.func4, Try.ntmps4
  go_wp2_with fail
  refine (zzFinite r _ Fr.out).mono ?_
  rintro e w1 ⟨rfl, hb1⟩
  go_wp2_with fail
  refine (zzFinite g _ Fg.out).mono ?_
  rintro e w2 ⟨rfl, hb2⟩
  go_wp2_with fail
  refine (zzFinite b _ Fb.out).mono ?_
  rintro e w3 ⟨rfl, hb3⟩
  go_wp2_with fail
  refine (zzAbs r _ Fr.out).mono ?_
  rintro e w9 ⟨rfl, rfl⟩
  go_wp2_with fail
  refine (zzAbs g _ Fg.out).mono ?_
  rintro e w9 ⟨rfl, rfl⟩
  go_wp2_with fail
  refine (zzAbs b _ Fb.out).mono ?_
  rintro e w9 ⟨rfl, rfl⟩
  go_wp2_with fail
  refine (zzAbs r _ Fr.out).mono ?_
  rintro e w9 ⟨rfl, rfl⟩
  go_wp2_with fail
  refine (zzAbs g _ Fg.out).mono ?_
  rintro e w9 ⟨rfl, rfl⟩
  go_wp2_with fail
  refine (zzAbs b _ Fb.out).mono ?_
  rintro e w9 ⟨rfl, rfl⟩
  go_wp2_with fail
  refine (zzMax3 _ _ _ _ (absw_fin Fr.out) (absw_fin Fg.out) (absw_fin Fb.out)).mono ?_
  rintro e w9 ⟨rfl, rfl⟩
  have r1 := fun (ty : TypeId) (w : World) => run_float_arith (P := Try.prog) w .mul ty .f64 4517329193108106637 _ _ (fo_some HT.out.1)
  have r2 := fun (ty : TypeId) (w : World) => run_float_arith (P := Try.prog) w .add ty .f64 _ 118622047889322841 _ (fo_some HT.out.2.1)
  go_wp2_with fail
  clear r1 r2
  refine (ZZLin2020ToXyz_n011_226 r g b _ HO.out).mono ?_
  rintro e w4 ⟨rfl, hb4⟩
  go_wp2_with fail
  refine (ZZXyzToLin2020_n011_226 _ _ _ _ HP.out).mono ?_
  rintro e w5 ⟨rfl, hb5⟩
  go_wp2_with fail
  refine (zzClose _ _ (tolm (max3w (absw r) (absw g) (absw b))) _ B0.out.2.1 B0.out.2.2.1 HT.out.2.2.1 (Rat.le_trans B0.out.2.2.2.1 HT.out.2.2.2) (Rat.le_trans B0.out.2.2.2.2 HT.out.2.2.2)).mono ?_
  rintro e w9 ⟨rfl, rfl⟩
  go_wp2_with fail
  refine (zzClose _ _ (tolm (max3w (absw r) (absw g) (absw b))) _ B1.out.2.1 B1.out.2.2.1 HT.out.2.2.1 (Rat.le_trans B1.out.2.2.2.1 HT.out.2.2.2) (Rat.le_trans B1.out.2.2.2.2 HT.out.2.2.2)).mono ?_
  rintro e w9 ⟨rfl, rfl⟩
  go_wp2_with fail
  refine (zzClose _ _ (tolm (max3w (absw r) (absw g) (absw b))) _ B2.out.2.1 B2.out.2.2.1 HT.out.2.2.1 (Rat.le_trans B2.out.2.2.2.1 HT.out.2.2.2) (Rat.le_trans B2.out.2.2.2.2 HT.out.2.2.2)).mono ?_
  rintro e w9 ⟨rfl, rfl⟩
  go_wp2_with fail
  go_ret
  exact ⟨rfl, ((((hb1).trans (hb2.mono (by have := hb1.size; omega))).trans (hb3.mono (by have := hb1.size; have := hb2.size; omega))).trans (hb4.mono (by have := hb1.size; have := hb2.size; have := hb3.size; omega))).trans (hb5.mono (by have := hb1.size; have := hb2.size; have := hb3.size; have := hb4.size; omega))⟩
end Go.Proofs.Ytlonknbmhbepnaa.F64
