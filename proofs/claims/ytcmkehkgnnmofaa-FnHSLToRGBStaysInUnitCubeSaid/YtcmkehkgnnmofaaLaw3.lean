/- FnHSLToRGBStaysInUnitCube returns true; and the lemmas for FnHSLToRGBAchromaticIsGrey. -/
import Derived.Test.YtcmkehkgnnmofaaCube
import Derived.Test.YtcmkehkgnnmofaaZz
namespace Go.Proofs.Ytcmkehkgnnmofaa.F64
open Go.RowKit Go.Proofs.Ytcmkehkgnnmofaa.FL
/-- The word is a NaN. -/
def IsNaN (z : Nat) : Prop := 2047 * 2 ^ 52 < z % 2 ^ 63
theorem nan_read {z : Nat} (h : IsNaN z) : ∃ s t, Ieee.double.read z = .nan s t := ⟨_, _, read_nan h⟩
theorem nan_order {z y : Nat} (h : IsNaN z) : Ieee.double.order z y = none := by
  obtain ⟨s, t, e⟩ := nan_read h
  unfold Ieee.Format.order; rw [e]; rfl
theorem order_nan {z y : Nat} (h : IsNaN z) : Ieee.double.order y z = none := by
  obtain ⟨s, t, e⟩ := nan_read h
  unfold Ieee.Format.order; rw [e]; cases Ieee.double.read y <;> rfl
/-- An invalid operation draws some NaN. -/
theorem run_nan {P : Program} (op : BinOp) (hop : op = .add ∨ op = .sub ∨ op = .mul ∨ op = .quo) (t : TypeId) (x y : Nat) (w : World) (h : floatBits op .f64 x y = none) :
    ∃ z, IsNaN z ∧ (binOp op t (.float .f64 x) (.float .f64 y)).run P w = .ok (.float .f64 z) w.drew := by
  refine ⟨(Question.nanBits .f64 x y).cut (w.tape w.drawn (.nanBits .f64 x y)), ?_, ?_⟩
  · unfold IsNaN Question.cut
    generalize w.tape w.drawn (.nanBits .f64 x y) = k
    have h1 : k / 2 % (2 ^ 52 - 1) < 2 ^ 52 - 1 := Nat.mod_lt _ (by decide)
    have h2 : k % 2 < 2 := Nat.mod_lt _ (by decide)
    show 2047 * 2 ^ 52 < (k % 2 * 2 ^ 63 + 9218868437227405312 + 1 + k / 2 % (2 ^ 52 - 1)) % 2 ^ 63
    generalize k / 2 % (2 ^ 52 - 1) = r at *
    generalize k % 2 = s at *
    have : s = 0 ∨ s = 1 := by omega
    rcases this with rfl | rfl <;> omega
  · unfold floatBits at h
    rcases hop with rfl | rfl | rfl | rfl <;> simp only at h <;> simp [binOp, Op.floatArith, h, Question.forced]

theorem notFin_sub {x : Nat} (h : ¬ FL.Fin x) : floatBits .sub .f64 x x = none := by
  unfold FL.Fin at h
  show Ieee.double.sub x x = none
  by_cases hi : x % 2 ^ 63 = 2047 * 2 ^ 52
  · unfold Ieee.Format.sub; rw [read_inf hi]; cases (x / 2 ^ 63 % 2 == 1) <;> rfl
  · unfold Ieee.Format.sub; rw [read_nan (show 2047 * 2 ^ 52 < x % 2 ^ 63 by omega)]; rfl

theorem zzFiniteNo (x : Nat) (w : World) (hx : ¬ FL.Fin x) :
    Calls Try.prog 5 #[.float .f64 x] w fun e w' => e = .returned (.bool false) ∧ Below w.heap.size w w' := by
  obtain ⟨z, hz, hr⟩ := run_nan (P := Try.prog) .sub (by simp) 22 x x w (notFin_sub hx)
  have o2 : FloatKind.f64.format.order z 0 = none := nan_order hz
  clear hx hz
  go_enter Try.func5, Try.ntmps5
  go_wp2
  go_ret
  exact ⟨rfl, (Below.refl _ _).drew⟩

theorem zzFinite (x : Nat) (w : World) (hx : FL.Fin x) :
    Calls Try.prog 5 #[.float .f64 x] w fun e w' => e = .returned (.bool true) ∧ Below w.heap.size w w' := by
  have hb := big_le
  obtain ⟨o, r, -⟩ := fo_sub hx hx (by grind) (by grind)
  have hz := r.zero (by grind)
  have o2 : FloatKind.f64.format.order (fo .sub x x) 0 = some .eq := by
    rcases order_fin r.fin f0 with ⟨h, _⟩ | ⟨_, h⟩ | ⟨h, _⟩
    · rw [hz, c0] at h; grind
    · exact h
    · rw [hz, c0] at h; grind
  have hr := fun (t : TypeId) (w : World) => run_float_arith (P := Try.prog) w .sub t .f64 x x _ (fo_some o)
  clear hb o r hz hx
  go_enter Try.func5, Try.ntmps5
  go_wp2
  go_ret
  exact ⟨rfl, Below.refl _ _⟩

def inB (x lo hi : Nat) : Bool := (Ieee.double.order x lo == some .gt || Ieee.double.order x lo == some .eq) && (Ieee.double.order x hi == some .lt || Ieee.double.order x hi == some .eq)
theorem zzIn (x lo hi : Nat) (w : World) : Calls Try.prog 6 #[.float .f64 x, .float .f64 lo, .float .f64 hi] w
    fun e w' => e = .returned (.bool (inB x lo hi)) ∧ w = w' := by
  cases h1 : (Ieee.double.order x lo == some .gt || Ieee.double.order x lo == some .eq)
  · have h1' : (FloatKind.f64.format.order x lo == some .gt || FloatKind.f64.format.order x lo == some .eq) = false := h1
    have HI := Lib.hid (show inB x lo hi = false by unfold inB; rw [h1]; rfl)
    clear h1
    go_enter Try.func6, Try.ntmps6
    go_wp2
    go_ret
    exact ⟨by rw [HI.out]; rfl, rfl⟩
  · have h1' : (FloatKind.f64.format.order x lo == some .gt || FloatKind.f64.format.order x lo == some .eq) = true := h1
    have HI := Lib.hid (show inB x lo hi = (FloatKind.f64.format.order x hi == some .lt || FloatKind.f64.format.order x hi == some .eq) by unfold inB; rw [h1]; rfl)
    clear h1
    go_enter Try.func6, Try.ntmps6
    go_wp2
    go_ret
    exact ⟨by rw [HI.out]; rfl, rfl⟩
theorem inB_fin {x lo hi : Nat} (hl : FL.Fin lo) (hh : FL.Fin hi) (h : inB x lo hi = true) : FL.Fin x ∧ rv lo ≤ rv x ∧ rv x ≤ rv hi := by
  unfold inB at h
  obtain ⟨h1, h2⟩ := Bool.and_eq_true_iff.1 h
  have hx := fin_between hl hh h1 h2
  rw [ge_iff hx hl] at h1
  rw [le_iff hx hh] at h2
  exact ⟨hx, of_decide_eq_true h1, of_decide_eq_true h2⟩
theorem inB_of {x lo hi : Nat} (hx : FL.Fin x) (hl : FL.Fin lo) (hh : FL.Fin hi) (h1 : rv lo ≤ rv x) (h2 : rv x ≤ rv hi) : inB x lo hi = true := by
  unfold inB
  rw [ge_iff hx hl, le_iff hx hh, decide_eq_true h1, decide_eq_true h2]; rfl

theorem pct_ok {x : Nat} (hx : FL.Fin x) (h1 : 0 ≤ rv x) (h2 : rv x ≤ 100) : ok .quo x 4636737291354636288 ∧ FL.Fin (pct x) ∧ 0 ≤ rv (pct x) ∧ rv (pct x) ≤ 1 := by
  have hb := big_le
  obtain ⟨o1, r1⟩ := quo_ok (M := 1) hx f100 c100 (by decide +kernel) (by grind) (by grind) (by grind)
  have b1 := r1.above 0 f0 (by rw [c0]; grind)
  have b2 := r1.below 4607182418800017408 fv1 (by rw [rv1]; grind)
  rw [c0] at b1
  rw [rv1] at b2
  exact ⟨o1, r1.fin, b1, b2⟩

theorem hsl10 {h s l : Nat} (hh : FL.Fin h) (hs : inB s 0 4636737291354636288 = true) (hl : inB l 0 4636737291354636288 = true) : HslOK h s l Q10 := by
  obtain ⟨a1, a2, a3, a4, a5, a6, a7⟩ := hue_all hh
  obtain ⟨fs, s1, s2⟩ := inB_fin f0 f100 hs
  obtain ⟨fl, l1, l2⟩ := inB_fin f0 f100 hl
  rw [c0] at s1 l1
  rw [c100] at s2 l2
  obtain ⟨os, fs', s1', s2'⟩ := pct_ok fs s1 s2
  obtain ⟨ol, fl', l1', l2'⟩ := pct_ok fl l1 l2
  exact ⟨a1, a2, a3, a4, os, ol, a5, a6, a7, light10 fl' l1' l2' fs' s1' s2'⟩

set_option maxRecDepth 100000 in
set_option maxHeartbeats 2000000 in
theorem law3 (h s l : Nat) (w : World) (_h0 : (Lit.float .f64 h).wf = true) (_h1 : (Lit.float .f64 s).wf = true) (_h2 : (Lit.float .f64 l).wf = true) :
    Calls Try.prog 3 #[.float .f64 h, .float .f64 s, .float .f64 l] w fun e w' => e = .returned (.bool true) ∧ Below w.heap.size w w' := by
  by_cases hh : FL.Fin h
  rotate_left
  · have HF := Lib.hid hh
    clear hh
    go_enter Try.func3, Try.ntmps3
    go_wp2_with fail
    refine (zzFiniteNo h _ HF.out).mono ?_
    rintro e w1 ⟨rfl, hb1⟩
    go_wp2_with fail
    go_ret
    exact ⟨rfl, hb1⟩
  have HF := Lib.hid hh
  cases hs : inB s 0 4636737291354636288
  · have HS := Lib.hid hs
    clear hh hs
    go_enter Try.func3, Try.ntmps3
    go_wp2_with fail
    refine (zzFinite h _ HF.out).mono ?_
    rintro e w1 ⟨rfl, hb1⟩
    go_wp2_with fail
    refine (zzIn s _ _ _).mono ?_
    rintro e w2 ⟨rfl, rfl⟩
    rw [HS.out]
    go_wp2_with fail
    go_ret
    exact ⟨rfl, hb1⟩
  cases hl : inB l 0 4636737291354636288
  · have HS := Lib.hid hs
    have HL := Lib.hid hl
    clear hh hs hl
    go_enter Try.func3, Try.ntmps3
    go_wp2_with fail
    refine (zzFinite h _ HF.out).mono ?_
    rintro e w1 ⟨rfl, hb1⟩
    go_wp2_with fail
    refine (zzIn s _ _ _).mono ?_
    rintro e w2 ⟨rfl, rfl⟩
    rw [HS.out]
    go_wp2_with fail
    refine (zzIn l _ _ _).mono ?_
    rintro e w2 ⟨rfl, rfl⟩
    rw [HL.out]
    go_wp2_with fail
    go_ret
    exact ⟨rfl, hb1⟩
  have HO := Lib.hid (hsl10 hh hs hl)
  have HS := Lib.hid hs
  have HL := Lib.hid hl
  clear hh hs hl
  go_enter Try.func3, Try.ntmps3
  go_wp2_with fail
  refine (zzFinite h _ HF.out).mono ?_
  rintro e w1 ⟨rfl, hb1⟩
  go_wp2_with fail
  refine (zzIn s _ _ _).mono ?_
  rintro e w2 ⟨rfl, rfl⟩
  rw [HS.out]
  go_wp2_with fail
  refine (zzIn l _ _ _).mono ?_
  rintro e w2 ⟨rfl, rfl⟩
  rw [HL.out]
  go_wp2_with fail
  refine (zz h s l Q10 _ HO.out).mono ?_
  rintro e w2 ⟨r0, r1, r2, q0, q1, q2, rfl, hb2⟩
  have I0 := Lib.hid (inB_of q0.1 f0 fv1 (by rw [c0]; exact q0.2.1) (by rw [rv1]; exact q0.2.2))
  have I1 := Lib.hid (inB_of q1.1 f0 fv1 (by rw [c0]; exact q1.2.1) (by rw [rv1]; exact q1.2.2))
  have I2 := Lib.hid (inB_of q2.1 f0 fv1 (by rw [c0]; exact q2.2.1) (by rw [rv1]; exact q2.2.2))
  clear q0 q1 q2
  go_wp2_with fail
  refine (zzIn r0 _ _ _).mono ?_
  rintro e w3 ⟨rfl, rfl⟩
  rw [I0.out]
  go_wp2_with fail
  refine (zzIn r1 _ _ _).mono ?_
  rintro e w3 ⟨rfl, rfl⟩
  rw [I1.out]
  go_wp2_with fail
  refine (zzIn r2 _ _ _).mono ?_
  rintro e w3 ⟨rfl, rfl⟩
  rw [I2.out]
  go_wp2_with fail
  go_ret
  exact ⟨rfl, hb1.trans (hb2.mono hb1.size)⟩
end Go.Proofs.Ytcmkehkgnnmofaa.F64
