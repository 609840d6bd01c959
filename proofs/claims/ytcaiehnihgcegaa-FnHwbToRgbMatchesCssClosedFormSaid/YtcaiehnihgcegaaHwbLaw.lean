/- FnHwbToRgbMatchesCssClosedForm: the walk. Printed by gen_hwblaw.py. -/
import Derived.Test.YtcaiehnihgcegaaHwbChan
import Derived.Test.YtcaiehnihgcegaaHwb
import Derived.Test.YtcaiehnihgcegaaGrayLaw
namespace Go.Proofs.Ytcaiehnihgcegaa.F64
open Go.RowKit Go.Proofs.Ytcaiehnihgcegaa.FL

theorem f0w : FL.Fin 0 := fin_zero
theorem f8w : FL.Fin 4620693217682128896 := by unfold FL.Fin; decide
theorem v8w : rv 4620693217682128896 = 8 := by decide +kernel
theorem f9w : FL.Fin 4472406533629990549 := by unfold FL.Fin; decide
theorem v9w : 1/2000000000 ≤ rv 4472406533629990549 := by decide +kernel
set_option maxHeartbeats 1000000 in
theorem chan_any (n h : Nat) (w : World) (fn : FL.Fin n) (N0 : 0 ≤ rv n) (N1 : rv n ≤ 8) (fh : FL.Fin h) (h1 : -10000 ≤ rv h) (h2 : rv h ≤ 10000) :
    Calls Try.prog 11 #[.float .f64 n, .float .f64 h, .float .f64 4602678819172646912, .float .f64 4602678819172646912] w fun e w' => ∃ c, Form (rv n + rv h * (1/30)) c ∧ e = .returned (.float .f64 c) ∧ w = w' := by
  have hE := ee_pos
  have hE2 := ee_le
  have ed : rv h / rv 4629137466983448576 = rv h * (1 / 30) := by rw [v30]; grind
  obtain ⟨t1, e1, R1⟩ := mk_quo fh f30 (by rw [v30]; decide) (by rw [ed]; grind) (by rw [ed]; grind)
  rw [ed] at R1
  have n1 := near R1 340 (by grind) (by grind) (by grind)
  obtain ⟨t2, e2, R2⟩ := mk_add fn R1.fin (by grind) (by grind)
  have n2 := near R2 350 (by grind) (by grind) (by grind)
  have q1 := fun (t : TypeId) (w : World) => run_float_arith (P := Try.prog) w .quo t .f64 _ _ _ e1
  have q2 := fun (t : TypeId) (w : World) => run_float_arith (P := Try.prog) w .add t .f64 _ _ _ e2
  have HM := Lib.hid (fun w => mod12_any t2 w R2.fin (by grind) (by grind))
  have HK := Lib.hid (fun k (hk : Mod12R t2 k) => mod12P R2.fin (by grind) (by grind) hk)
  have HB := Lib.hid (show -360 ≤ rv t2 ∧ rv t2 ≤ 360 by constructor <;> grind)
  have HC := Lib.hid (fun c (hc : ChanR n h 4602678819172646912 4602678819172646912 c) => chanP fn rfl N0 N1 fh h1 h2 hc)
  have E1 := Lib.hid e1
  have E2 := Lib.hid e2
  clear e1 e2 R1 R2 n1 n2 ed fn N0 N1 fh h1 h2 hE hE2
  go_enter Try.func11, Try.ntmps11
  go_wp2_with fail
  clear q1 q2
  refine (HM.out _).mono ?_
  rintro e w1 ⟨k, hk, rfl, rfl⟩
  obtain ⟨m, fk, b1, b2, k1, k2⟩ := HK.out k hk
  have hE := ee_pos
  have hE2 := ee_le
  have hB := HB.out
  have kb : -20 ≤ rv k ∧ rv k ≤ 20 := by constructor <;> grind
  obtain ⟨a1, e3, R3⟩ := mk_sub fk f3 (by rw [v3]; grind) (by rw [v3]; grind)
  rw [v3] at R3
  have n3 := near R3 25 (by grind) (by grind) (by grind)
  obtain ⟨a2, e4, R4⟩ := mk_sub f9 fk (by rw [v9]; grind) (by rw [v9]; grind)
  rw [v9] at R4
  obtain ⟨g1, c1⟩ := minF_spec R3.fin R4.fin
  obtain ⟨g2, c2⟩ := minF_spec g1 f1
  obtain ⟨g3, c3⟩ := maxF_spec fm1 g2
  rw [v1] at c2
  rw [vm1] at c3
  have vb : -1 ≤ rv (maxF 13830554455654793216 (minF (minF a1 a2) 4607182418800017408)) ∧ rv (maxF 13830554455654793216 (minF (minF a1 a2) 4607182418800017408)) ≤ 1 := by grind
  obtain ⟨p, e5, R5⟩ := mk_mul fhalf g3 (by rw [vhalf]; grind) (by rw [vhalf]; grind)
  rw [vhalf] at R5
  have n5 := near R5 1 (by grind) (by grind) (by grind)
  obtain ⟨c, e6, R6⟩ := mk_sub fhalf R5.fin (by rw [vhalf]; grind) (by rw [vhalf]; grind)
  have HR := Lib.hid (HC.out c ⟨t1, t2, k, a1, a2, p, .inl E1.out, .inl E2.out, hk, .inl e3, .inl e4, .inl e5, .inl e6⟩)
  have q3 := fun (t : TypeId) (w : World) => run_float_arith (P := Try.prog) w .sub t .f64 _ _ _ e3
  have q4 := fun (t : TypeId) (w : World) => run_float_arith (P := Try.prog) w .sub t .f64 _ _ _ e4
  have q5 := fun (t : TypeId) (w : World) => run_float_arith (P := Try.prog) w .mul t .f64 _ _ _ e5
  have q6 := fun (t : TypeId) (w : World) => run_float_arith (P := Try.prog) w .sub t .f64 _ _ _ e6
  clear hk m fk b1 b2 k1 k2 hE hE2 hB kb e3 e4 e5 e6 R3 R4 R5 R6 n3 n5 g1 g2 g3 c1 c2 c3 vb HM HK HB HC E1 E2
  go_wp2_with fail
  refine (minF_any a1 a2 _).mono ?_
  rintro e w2 ⟨rfl, rfl⟩
  go_wp2_with fail
  refine (minF_any (minF a1 a2) 4607182418800017408 _).mono ?_
  rintro e w3 ⟨rfl, rfl⟩
  go_wp2_with fail
  refine (maxF_any 13830554455654793216 (minF (minF a1 a2) 4607182418800017408) _).mono ?_
  rintro e w4 ⟨rfl, rfl⟩
  go_wp2_with fail
  go_ret
  exact ⟨c, HR.out, rfl, rfl⟩

def NearOk (a b : Nat) : Prop := FL.Fin a ∧ FL.Fin b ∧ -(1/10000000000) ≤ rv a - rv b ∧ rv a - rv b ≤ 1/10000000000
theorem near_any (a b : Nat) (w : World) (h : NearOk a b) : Calls Try.prog 10 #[.float .f64 a, .float .f64 b] w fun e w' => e = .returned (.bool true) ∧ w = w' := by
  obtain ⟨fa, fb, h1, h2⟩ := h
  have hE := ee_pos
  have hE2 := ee_le
  obtain ⟨d, e1, R1⟩ := mk_sub fa fb (by grind) (by grind)
  have n1 := near R1 1 (by grind) (by grind) (by grind)
  have q1 := fun (t : TypeId) (w : World) => run_float_arith (P := Try.prog) w .sub t .f64 _ _ _ e1
  have v9 := v9w
  by_cases hn : rv d < 0
  · have o1 : (FloatKind.f64.format.order d 0 == some .lt) = true := by rw [show FloatKind.f64.format.order d 0 = Ieee.double.order d 0 from rfl, lt_iff R1.fin fin_zero, rv_zero]; simpa using hn
    have e : Op.negFloat .f64 d = d ^^^ 2 ^ 63 := rfl
    have o2 : (FloatKind.f64.format.order (Op.negFloat .f64 d) 4472406533629990549 == some .lt || FloatKind.f64.format.order (Op.negFloat .f64 d) 4472406533629990549 == some .eq) = true := by
      rw [e]
      have := le_iff (neg_fin R1.fin) f9w
      rw [show FloatKind.f64.format.order (d ^^^ 2 ^ 63) 4472406533629990549 = Ieee.double.order (d ^^^ 2 ^ 63) 4472406533629990549 from rfl, this, neg_rv R1.fin]
      simp; grind
    clear e1 R1 n1 v9 hn e fa fb h1 h2 hE hE2
    go_enter Try.func10, Try.ntmps10
    go_wp2
    go_ret
    exact ⟨rfl, rfl⟩
  · have o1 : (FloatKind.f64.format.order d 0 == some .lt) = false := by rw [show FloatKind.f64.format.order d 0 = Ieee.double.order d 0 from rfl, lt_iff R1.fin fin_zero, rv_zero]; simpa using hn
    have o2 : (FloatKind.f64.format.order d 4472406533629990549 == some .lt || FloatKind.f64.format.order d 4472406533629990549 == some .eq) = true := by
      have := le_iff R1.fin f9w
      rw [show FloatKind.f64.format.order d 4472406533629990549 = Ieee.double.order d 4472406533629990549 from rfl, this]
      simp; grind
    clear e1 R1 n1 v9 hn fa fb h1 h2 hE hE2
    go_enter Try.func10, Try.ntmps10
    go_wp2
    go_ret
    exact ⟨rfl, rfl⟩

set_option maxRecDepth 100000 in
set_option maxHeartbeats 1000000 in
theorem zzHwb (x y z : Nat) (w : World) :
    Calls Try.prog 9 #[.float .f64 x, .float .f64 y, .float .f64 z] w
      fun e w' => ∃ r g b, HwbR x y z r g b ∧ e = .returned (.tuple #[.float .f64 r, .float .f64 g, .float .f64 b]) ∧ Below w.heap.size w w' := by
  go_enter Try.func9, Try.ntmps9
  go_wp2_with fail
  refine (newF64 x _).mono ?_
  rintro e w1 ⟨rfl, hb1⟩
  go_wp2_with fail
  refine (newF64 y _).mono ?_
  rintro e w2 ⟨rfl, hb2⟩
  go_wp2_with fail
  refine (newF64 z _).mono ?_
  rintro e w3 ⟨rfl, hb3⟩
  go_wp2_with fail
  refine (hwb x y z _).mono ?_
  rintro e w4 ⟨r0, r1, r2, hr, rfl, hb4⟩
  have HR := Lib.hid hr
  have hB : Below w.heap.size w w4 := ((hb1.trans (hb2.mono hb1.size)).trans (hb3.mono (Nat.le_trans hb1.size hb2.size))).trans (hb4.mono (Nat.le_trans (Nat.le_trans hb1.size hb2.size) hb3.size))
  clear hr hb1 hb2 hb3 hb4
  have hsz := hB.size
  go_wp2_with fail
  have STEP := Lib.hid (fun w1 w2 (h : ZInv w w4 r0 r1 r2 w1) (hb : Below w1.heap.size w1 w2) => h.step hb)
  have START := Lib.hid (ZInv.start w w4 r0 r1 r2 43 hB)
  go_region_held3 (fun w' => Below w.heap.size w w' ∧ w'.cell? ⟨w4.heap.size, 0, none⟩ = some (.float .f64 r0) ∧ w'.cell? ⟨w4.heap.size + 1, 0, none⟩ = some (.float .f64 r1) ∧ w'.cell? ⟨w4.heap.size + 1 + 1, 0, none⟩ = some (.float .f64 r2) ∧ w4.heap.size + 1 + 1 < w'.heap.size)
    (first | assumption | exact START.out)
    (first | (go_at_call 24; refine (value _ _).mono ?_; rintro e w1 ⟨rfl, hb⟩; have hI := STEP.out _ _ (by assumption) hb; unfold ZInv at hI; clear hb))
  go_wp2
  go_ret3
  exact ⟨r0, r1, r2, HR.out, rfl, And.left (show ZInv w w4 r0 r1 r2 _ by assumption)⟩

/-- One channel: the law's own reckoning, and that it comes near. -/
theorem step1 {h wt bk s d s1 d1 r0 pr r c : Nat} {o N : Rat} {j : Int} (fw : FL.Fin wt) (fb : FL.Fin bk) (w0 : 0 ≤ rv wt) (w1 : rv wt ≤ 1) (b0 : 0 ≤ rv bk) (b1 : rv bk ≤ 1)
    (hs : Res .add wt bk s) (hd : Res .add (Op.negFloat .f64 s) 4607182418800017408 d) (hs1 : Res .sub 4607182418800017408 wt s1) (hd1 : Res .sub s1 bk d1)
    (hp : Pure (rv h * (1/360)) o r0) (hf : Form (N + rv h * (1/30)) c) (e : 12 * o = N + 4 + 12 * (j : Rat)) (hm : Res .mul d r0 pr) (ha : Res .add pr wt r) :
    ∃ p q, floatBits .mul .f64 c d1 = some p ∧ floatBits .add .f64 p wt = some q ∧ NearOk r q := by
  have hE := ee_pos
  have hE2 := ee_le
  have hbig := big_le
  have hf' : Form (N + 12 * (rv h * (1/360))) c := by
    have e : N + 12 * (rv h * (1/360)) = N + rv h * (1/30) := by grind
    rw [e]; exact hf
  obtain ⟨fr, fc, rc, r1, r2⟩ := both hp hf' e
  have R3 := res_sub hs1 f1 fw (by rw [v1]; grind) (by rw [v1]; grind)
  rw [v1] at R3
  have n3 := near R3 1 (by grind) (by grind) (by grind)
  have R4 := res_sub hd1 R3.fin fb (by grind) (by grind)
  have n4 := near R4 2 (by grind) (by grind) (by grind)
  have m2 := mul_abs (x := rv c) (d := rv d1) (X := 2) (E := 2) (by grind) (by grind) (by grind) (by grind)
  obtain ⟨p, e1, R5⟩ := mk_mul fc R4.fin (by grind) (by grind)
  have n5 := near R5 4 (by grind) (by grind) (by grind)
  obtain ⟨q, e2, R6⟩ := mk_add R5.fin fw (by grind) (by grind)
  obtain ⟨g1, g2, l1, l2, -, -⟩ := laidIn fw fb w0 w1 b0 b1 hs hd hs1 hd1 fr fc rc r1 r2 hm ha (.inl e1) (.inl e2)
  exact ⟨p, q, e1, e2, g1, g2, by grind, by grind⟩
theorem near_self {a : Nat} (h : FL.Fin a) : NearOk a a := ⟨h, h, by grind, by grind⟩
theorem flo4 : FL.Fin 13890095209322119168 := by unfold FL.Fin; decide
theorem vlo4 : rv 13890095209322119168 = -10000 := by decide +kernel
theorem fhi4 : FL.Fin 4666723172467343360 := by unfold FL.Fin; decide
theorem vhi4 : rv 4666723172467343360 = 10000 := by decide +kernel

set_option maxRecDepth 100000 in
set_option maxHeartbeats 4000000 in
theorem law4in (h wt bk : Nat) (w : World) (p1 : (FloatKind.f64.format.order h 13890095209322119168 == some .gt || FloatKind.f64.format.order h 13890095209322119168 == some .eq) = true) (p2 : (FloatKind.f64.format.order h 4666723172467343360 == some .lt || FloatKind.f64.format.order h 4666723172467343360 == some .eq) = true) (p3 : (FloatKind.f64.format.order wt 0 == some .gt || FloatKind.f64.format.order wt 0 == some .eq) = true) (p4 : (FloatKind.f64.format.order wt 4607182418800017408 == some .lt || FloatKind.f64.format.order wt 4607182418800017408 == some .eq) = true) (p5 : (FloatKind.f64.format.order bk 0 == some .gt || FloatKind.f64.format.order bk 0 == some .eq) = true) (p6 : (FloatKind.f64.format.order bk 4607182418800017408 == some .lt || FloatKind.f64.format.order bk 4607182418800017408 == some .eq) = true) : Calls Try.prog 4 #[.float .f64 h, .float .f64 wt, .float .f64 bk] w fun e w' => e = .returned (.bool true) ∧ Below w.heap.size w w' := by
  have fh : FL.Fin h := fin_between flo4 fhi4 p1 p2
  have fw : FL.Fin wt := fin_between fin_zero f1 p3 p4
  have fb : FL.Fin bk := fin_between fin_zero f1 p5 p6
  have h1 : rv 13890095209322119168 ≤ rv h := by simpa using (ge_iff fh flo4).symm.trans p1
  have h2 : rv h ≤ rv 4666723172467343360 := by simpa using (le_iff fh fhi4).symm.trans p2
  have w0 : rv 0 ≤ rv wt := by simpa using (ge_iff fw fin_zero).symm.trans p3
  have w1 : rv wt ≤ rv 4607182418800017408 := by simpa using (le_iff fw f1).symm.trans p4
  have b0 : rv 0 ≤ rv bk := by simpa using (ge_iff fb fin_zero).symm.trans p5
  have b1 : rv bk ≤ rv 4607182418800017408 := by simpa using (le_iff fb f1).symm.trans p6
  rw [vlo4] at h1
  rw [vhi4] at h2
  rw [rv_zero] at w0 b0
  rw [v1] at w1 b1
  have hE := ee_pos
  have hE2 := ee_le
  obtain ⟨s, e1, R1⟩ := mk_add fw fb (by grind) (by grind)
  have n1 := near R1 2 (by grind) (by grind) (by grind)
  have q1 := fun (t : TypeId) (w : World) => run_float_arith (P := Try.prog) w .add t .f64 _ _ _ e1
  cases hg : geB s 4607182418800017408
  · have hg' : (FloatKind.f64.format.order s 4607182418800017408 == some .gt || FloatKind.f64.format.order s 4607182418800017408 == some .eq) = false := hg
    obtain ⟨s1, e2, R2⟩ := mk_sub f1 fw (by rw [v1]; grind) (by rw [v1]; grind)
    rw [v1] at R2
    have n2 := near R2 1 (by grind) (by grind) (by grind)
    obtain ⟨d1, e3, R3⟩ := mk_sub R2.fin fb (by grind) (by grind)
    have q2 := fun (t : TypeId) (w : World) => run_float_arith (P := Try.prog) w .sub t .f64 _ _ _ e2
    have q3 := fun (t : TypeId) (w : World) => run_float_arith (P := Try.prog) w .sub t .f64 _ _ _ e3
    have HX := Lib.hid (fun r g b (hr : HwbR h wt bk r g b) => show ∃ d r0 g0 b0 pr pg pb, Res .add (Op.negFloat .f64 s) 4607182418800017408 d ∧ HslR h 4607182418800017408 4602678819172646912 r0 g0 b0 ∧ (Res .mul d r0 pr ∧ Res .add pr wt r) ∧ (Res .mul d g0 pg ∧ Res .add pg wt g) ∧ (Res .mul d b0 pb ∧ Res .add pb wt b) by
      obtain ⟨s2, a1, a2⟩ := hr
      have det : ∀ z, Res .add wt bk z → z = s := by
        intro z hz
        rcases hz with hz | ⟨hz, -⟩
        · rw [e1] at hz; injection hz with hz; exact hz.symm
        · rw [e1] at hz; cases hz
      rw [det s2 a1, hg] at a2
      obtain ⟨s', d, r0, g0, b0, pr, pg, pb, y1, y2, y3⟩ := a2
      rw [det s' y1] at y2
      exact ⟨d, r0, g0, b0, pr, pg, pb, y2, y3⟩)
    have HP := Lib.hid (fun r0 g0 b0 (hr : HslR h 4607182418800017408 4602678819172646912 r0 g0 b0) => pure_hsl fh h1 h2 hr)
    have HC := Lib.hid (fun n w (fn : FL.Fin n) (a : 0 ≤ rv n) (b : rv n ≤ 8) => chan_any n h w fn a b fh h1 h2)
    have HS := Lib.hid (fun (d r0 pr r c : Nat) (o N : Rat) (j : Int) (hd : Res .add (Op.negFloat .f64 s) 4607182418800017408 d) (hp : Pure (rv h * (1/360)) o r0) (hf : Form (N + rv h * (1/30)) c) (e : 12 * o = N + 4 + 12 * (j : Rat)) (hm : Res .mul d r0 pr) (ha : Res .add pr wt r) =>
      step1 fw fb w0 w1 b0 b1 (.inl e1) hd (.inl e2) (.inl e3) hp hf e hm ha)
    clear e1 e2 e3 R1 R2 R3 n1 n2 hg hE hE2 h1 h2 w0 w1 b0 b1 fh fw fb
    go_enter Try.func4, Try.ntmps4
    go_wp2_with fail
    refine (zzHwb h wt bk _).mono ?_
    rintro e w1 ⟨r, g, b, hr, rfl, hb1⟩
    obtain ⟨d, r0, g0, b0, pr, pg, pb, hd, hsl, ⟨m1, a1⟩, ⟨m2, a2⟩, ⟨m3, a3⟩⟩ := HX.out r g b hr
    have HD := Lib.hid hd
    have HPP := Lib.hid (HP.out r0 g0 b0 hsl)
    have HM1 := Lib.hid (And.intro m1 a1)
    have HM2 := Lib.hid (And.intro m2 a2)
    have HM3 := Lib.hid (And.intro m3 a3)
    clear hr hd hsl m1 a1 m2 a2 m3 a3
    go_wp2_with fail
    clear q1 q2 q3

    refine (HC.out 0 _ fin_zero (by rw [rv_zero]; decide) (by rw [rv_zero]; decide)).mono ?_
    rintro e w2 ⟨c0, hc0, rfl, rfl⟩
    rw [rv_zero] at hc0
    obtain ⟨p, q, e1, e2, hn⟩ := HS.out d r0 pr r c0 (1/3) 0 (0) HD.out HPP.out.1 hc0 (by decide +kernel) HM1.out.1 HM1.out.2
    have q1 := fun (t : TypeId) (w : World) => run_float_arith (P := Try.prog) w .mul t .f64 _ _ _ e1
    have q2 := fun (t : TypeId) (w : World) => run_float_arith (P := Try.prog) w .add t .f64 _ _ _ e2
    have HN := Lib.hid hn
    clear e1 e2 hn hc0
    go_wp2_with fail
    clear q1 q2
    refine (near_any _ _ _ HN.out).mono ?_
    rintro e w2 ⟨rfl, rfl⟩
    clear HN
    go_wp2_with fail

    refine (HC.out 4620693217682128896 _ f8w (by rw [v8w]; decide) (by rw [v8w]; decide)).mono ?_
    rintro e w2 ⟨c1, hc1, rfl, rfl⟩
    rw [v8w] at hc1
    obtain ⟨p, q, e1, e2, hn⟩ := HS.out d g0 pg g c1 0 8 (-1) HD.out HPP.out.2.1 hc1 (by decide +kernel) HM2.out.1 HM2.out.2
    have q1 := fun (t : TypeId) (w : World) => run_float_arith (P := Try.prog) w .mul t .f64 _ _ _ e1
    have q2 := fun (t : TypeId) (w : World) => run_float_arith (P := Try.prog) w .add t .f64 _ _ _ e2
    have HN := Lib.hid hn
    clear e1 e2 hn hc1
    go_wp2_with fail
    clear q1 q2
    refine (near_any _ _ _ HN.out).mono ?_
    rintro e w2 ⟨rfl, rfl⟩
    clear HN
    go_wp2_with fail

    refine (HC.out 4616189618054758400 _ f4 (by rw [v4]; decide) (by rw [v4]; decide)).mono ?_
    rintro e w2 ⟨c2, hc2, rfl, rfl⟩
    rw [v4] at hc2
    obtain ⟨p, q, e1, e2, hn⟩ := HS.out d b0 pb b c2 (-1/3) 4 (-1) HD.out HPP.out.2.2 hc2 (by decide +kernel) HM3.out.1 HM3.out.2
    have q1 := fun (t : TypeId) (w : World) => run_float_arith (P := Try.prog) w .mul t .f64 _ _ _ e1
    have q2 := fun (t : TypeId) (w : World) => run_float_arith (P := Try.prog) w .add t .f64 _ _ _ e2
    have HN := Lib.hid hn
    clear e1 e2 hn hc2
    go_wp2_with fail
    clear q1 q2
    refine (near_any _ _ _ HN.out).mono ?_
    rintro e w2 ⟨rfl, rfl⟩
    clear HN
    go_wp2_with fail

    go_ret
    exact ⟨rfl, hb1⟩
  · have hg' : (FloatKind.f64.format.order s 4607182418800017408 == some .gt || FloatKind.f64.format.order s 4607182418800017408 == some .eq) = true := hg
    have s1 : rv 4607182418800017408 ≤ rv s := by simpa using (ge_iff R1.fin f1).symm.trans hg
    rw [v1] at s1
    have dv : -1 ≤ rv wt / rv s ∧ rv wt / rv s ≤ 1 := by
      have e : rv wt / rv s * rv s = rv wt := Rat.div_mul_cancel (by grind)
      generalize rv wt / rv s = y at *
      constructor
      · apply Classical.byContradiction
        intro hc
        have := Rat.mul_nonneg (a := -y - 1) (b := rv s) (by grind) (by grind)
        grind
      · apply Classical.byContradiction
        intro hc
        have := Rat.mul_pos (a := y - 1) (b := rv s) (by grind) (by grind)
        grind
    obtain ⟨q, e2, R2⟩ := mk_quo fw R1.fin (by grind) (by grind) (by grind)
    have HN := Lib.hid (near_self R2.fin)
    have q2 := fun (t : TypeId) (w : World) => run_float_arith (P := Try.prog) w .quo t .f64 _ _ _ e2
    have HX := Lib.hid (fun r g b (hr : HwbR h wt bk r g b) => show r = q ∧ g = q ∧ b = q by
      obtain ⟨s2, a1, a2⟩ := hr
      have det : ∀ z, Res .add wt bk z → z = s := by
        intro z hz
        rcases hz with hz | ⟨hz, -⟩
        · rw [e1] at hz; injection hz with hz; exact hz.symm
        · rw [e1] at hz; cases hz
      rw [det s2 a1, hg] at a2
      obtain ⟨s', q', y1, y2, y3⟩ := a2
      rw [det s' y1] at y2
      rcases y2 with y2 | ⟨y2, -⟩
      · rw [e2] at y2; injection y2 with y2; rw [y2]; exact y3
      · rw [e2] at y2; cases y2)
    clear e1 e2 R1 R2 n1 hg hE hE2 h1 h2 w0 w1 b0 b1 fh fw fb s1 dv
    go_enter Try.func4, Try.ntmps4
    go_wp2_with fail
    refine (zzHwb h wt bk _).mono ?_
    rintro e w1 ⟨r, g, b, hr, rfl, hb1⟩
    obtain ⟨rfl, rfl, rfl⟩ := HX.out r g b hr
    clear hr
    go_wp2_with fail
    clear q1 q2
    refine (near_any _ _ _ HN.out).mono ?_
    rintro e w2 ⟨rfl, rfl⟩
    go_wp2_with fail
    refine (near_any _ _ _ HN.out).mono ?_
    rintro e w2 ⟨rfl, rfl⟩
    go_wp2_with fail
    refine (near_any _ _ _ HN.out).mono ?_
    rintro e w2 ⟨rfl, rfl⟩
    go_wp2_with fail
    go_ret
    exact ⟨rfl, hb1⟩

set_option maxRecDepth 100000 in
set_option maxHeartbeats 4000000 in
theorem law4 (h wt bk : Nat) (w : World) (_wl : (Lit.float .f64 h).wf = true) (_w1 : (Lit.float .f64 wt).wf = true) (_w2 : (Lit.float .f64 bk).wf = true) : Calls Try.prog 4 #[.float .f64 h, .float .f64 wt, .float .f64 bk] w fun e w' => e = .returned (.bool true) ∧ Below w.heap.size w w' := by
  clear _wl _w1 _w2
  cases p1 : (FloatKind.f64.format.order h 13890095209322119168 == some .gt || FloatKind.f64.format.order h 13890095209322119168 == some .eq)
  · go_enter Try.func4, Try.ntmps4
    go_wp2_with fail
    go_ret
    exact ⟨rfl, Below.refl _ _⟩
  cases p2 : (FloatKind.f64.format.order h 4666723172467343360 == some .lt || FloatKind.f64.format.order h 4666723172467343360 == some .eq)
  · go_enter Try.func4, Try.ntmps4
    go_wp2_with fail
    go_ret
    exact ⟨rfl, Below.refl _ _⟩
  cases p3 : (FloatKind.f64.format.order wt 0 == some .gt || FloatKind.f64.format.order wt 0 == some .eq)
  · go_enter Try.func4, Try.ntmps4
    go_wp2_with fail
    go_ret
    exact ⟨rfl, Below.refl _ _⟩
  cases p4 : (FloatKind.f64.format.order wt 4607182418800017408 == some .lt || FloatKind.f64.format.order wt 4607182418800017408 == some .eq)
  · go_enter Try.func4, Try.ntmps4
    go_wp2_with fail
    go_ret
    exact ⟨rfl, Below.refl _ _⟩
  cases p5 : (FloatKind.f64.format.order bk 0 == some .gt || FloatKind.f64.format.order bk 0 == some .eq)
  · go_enter Try.func4, Try.ntmps4
    go_wp2_with fail
    go_ret
    exact ⟨rfl, Below.refl _ _⟩
  cases p6 : (FloatKind.f64.format.order bk 4607182418800017408 == some .lt || FloatKind.f64.format.order bk 4607182418800017408 == some .eq)
  · go_enter Try.func4, Try.ntmps4
    go_wp2_with fail
    go_ret
    exact ⟨rfl, Below.refl _ _⟩
  exact law4in h wt bk w p1 p2 p3 p4 p5 p6
end Go.Proofs.Ytcaiehnihgcegaa.F64
