/- floatToByte, and FnFloatToByteMonotoneInRange returns true. -/
import Derived.Test.YtofppnnfgkpcgaaRnd
namespace Go.Proofs.Ytofppnnfgkpcgaa.R
open Go.RowKit Go.Proofs.Ytofppnnfgkpcgaa.FL
def fo (op : BinOp) (x y : Nat) : Nat := (floatBits op .f64 x y).getD 0

theorem c255 : rv 4643176031446892544 = 255 := by decide +kernel
theorem f255 : FL.Fin 4643176031446892544 := by unfold FL.Fin; decide
theorem c15 : rv 4831355200913801216 = 1000000000000000 := by decide +kernel
theorem f15 : FL.Fin 4831355200913801216 := by unfold FL.Fin; decide
theorem c15n : rv 14054727237768577024 = -1000000000000000 := by decide +kernel
theorem f15n : FL.Fin 14054727237768577024 := by unfold FL.Fin; decide

/-- The byte as a whole number, before it is clamped. -/
def raw (x : Nat) : Int := roundInt (rv (fo .mul x 4643176031446892544))
def clampB (n : Int) : Int := if n < 0 then 0 else if 255 < n then 255 else n
theorem clampB_mono {m n : Int} (h : m ≤ n) : clampB m ≤ clampB n := by unfold clampB; split <;> split <;> (try split) <;> omega
theorem clampB_le (n : Int) : 0 ≤ clampB n ∧ clampB n ≤ 255 := by unfold clampB; split <;> (try split) <;> omega

theorem mul_ok {x : Nat} (hx : FL.Fin x) (h1 : -1000000000000000 ≤ rv x) (h2 : rv x ≤ 1000000000000000) :
    floatBits .mul .f64 x 4643176031446892544 = some (fo .mul x 4643176031446892544) ∧ Rnd (rv x * 255) (fo .mul x 4643176031446892544) ∧ IsNear (rv x * 255) (fo .mul x 4643176031446892544) := by
  have hb := big_le
  obtain ⟨z, hz, hr, hn, -⟩ := mul_rnd hx f255 (by rw [c255]; grind) (by rw [c255]; grind)
  have e : floatBits .mul .f64 x 4643176031446892544 = some z := hz
  rw [c255] at hr hn
  unfold fo; rw [e]
  exact ⟨rfl, hr, hn⟩

theorem raw_mono {x y : Nat} (hx : FL.Fin x) (hy : FL.Fin y) (h1 : -1000000000000000 ≤ rv x) (h2 : rv x ≤ 1000000000000000) (h3 : -1000000000000000 ≤ rv y) (h4 : rv y ≤ 1000000000000000)
    (h : rv x ≤ rv y) : raw x ≤ raw y := by
  obtain ⟨-, rx, nx⟩ := mul_ok hx h1 h2
  obtain ⟨-, ry, ny⟩ := mul_ok hy h3 h4
  apply roundInt_mono
  by_cases e : rv x = rv y
  · rw [e] at nx
    have := nx.det ny
    grind
  · exact rx.mono ry (by grind)

theorem raw_conv {x : Nat} (hx : FL.Fin x) (h1 : -1000000000000000 ≤ rv x) (h2 : rv x ≤ 1000000000000000) :
    fo .mul x 4643176031446892544 < 2 ^ 64 ∧ floatToIntVal .f64 (roundw (fo .mul x 4643176031446892544)) .i64 = some (raw x) ∧ -(1000000000000000000 : Int) ≤ raw x ∧ raw x ≤ 1000000000000000000 := by
  obtain ⟨-, rx, nx⟩ := mul_ok hx h1 h2
  have hep := eta_pos
  have hel := eta_le
  have er := rx.err 255000000000000000 (by grind) (by grind)
  rw [u53_eq] at er
  obtain ⟨-, hf, hv⟩ := roundw_spec rx.lt rx.fin
  have hlo : -(1000000000000000000 : Int) ≤ raw x := by
    have := roundInt_mono (show ((-(1000000000000000000 : Int) : Int) : Rat) ≤ rv (fo .mul x 4643176031446892544) by
      have e : ((-(1000000000000000000 : Int) : Int) : Rat) = -1000000000000000000 := by rfl
      rw [e]; grind)
    have e : roundInt ((-(1000000000000000000 : Int) : Int) : Rat) = -1000000000000000000 := by decide +kernel
    rw [e] at this; exact this
  have hhi : raw x ≤ 1000000000000000000 := by
    have := roundInt_mono (show rv (fo .mul x 4643176031446892544) ≤ (((1000000000000000000 : Int) : Int) : Rat) by
      have e : (((1000000000000000000 : Int) : Int) : Rat) = 1000000000000000000 := by rfl
      rw [e]; grind)
    have e : roundInt (((1000000000000000000 : Int) : Int) : Rat) = 1000000000000000000 := by decide +kernel
    rw [e] at this; exact this
  refine ⟨rx.lt, ?_, hlo, hhi⟩
  unfold floatToIntVal
  have ht : (FloatKind.f64.decode (roundw (fo .mul x 4643176031446892544))).toInt .zero = some (raw x) := toInt_whole hf hv
  rw [ht]
  have m1 : IntKind.i64.min = -9223372036854775808 := by decide
  have m2 : IntKind.i64.max = 9223372036854775807 := by decide
  simp only [m1, m2]
  rw [if_pos (by omega)]

theorem floatToByte (x : Nat) (w : World) (hx : FL.Fin x) (h1 : -1000000000000000 ≤ rv x) (h2 : rv x ≤ 1000000000000000) :
    Calls Try.prog 5 #[.float .f64 x] w fun e w' => e = .returned (.int .u32 (clampB (raw x))) ∧ w = w' := by
  have hr := fun (t : TypeId) (w : World) => run_float_arith (P := Try.prog) w .mul t .f64 x 4643176031446892544 _ (mul_ok hx h1 h2).1
  obtain ⟨hlt, hc, n1, n2⟩ := raw_conv hx h1 h2
  have hcv := fun (w : World) => run_convert_float_int (P := Try.prog) w 22 3 .f64 .i64 _ _ (by kernel_rfl) Try.underlying3 hc
  clear hx h1 h2 hc
  have HL := Lib.hid hlt
  clear hlt
  generalize hn : raw x = n at *
  have HN := Lib.hid hn
  clear hn
  by_cases k1 : n < 0
  · have HC := Lib.hid (show clampB n = 0 by unfold clampB; rw [if_pos k1])
    go_enter Try.func5, Try.ntmps5
    go_wp2_with fail
    refine (round _ _ HL.out).mono ?_
    rintro e w' ⟨rfl, rfl⟩
    go_wp2
    go_ret
    exact ⟨by rw [HC.out]; rfl, rfl⟩
  · by_cases k2 : 255 < n
    · have HC := Lib.hid (show clampB n = 255 by unfold clampB; rw [if_neg k1, if_pos k2])
      go_enter Try.func5, Try.ntmps5
      go_wp2_with fail
      refine (round _ _ HL.out).mono ?_
      rintro e w' ⟨rfl, rfl⟩
      go_wp2
      go_ret
      exact ⟨by rw [HC.out]; rfl, rfl⟩
    · have HC := Lib.hid (show clampB n = n by unfold clampB; rw [if_neg k1, if_neg k2])
      go_enter Try.func5, Try.ntmps5
      go_wp2_with fail
      refine (round _ _ HL.out).mono ?_
      rintro e w' ⟨rfl, rfl⟩
      go_wp2
      go_ret
      exact ⟨by rw [HC.out]; rfl, rfl⟩

theorem zzByte (x : Nat) (w : World) (hx : FL.Fin x) (h1 : -1000000000000000 ≤ rv x) (h2 : rv x ≤ 1000000000000000) :
    Calls Try.prog 4 #[.float .f64 x] w fun e w' => e = .returned (.int .u32 (clampB (raw x))) ∧ w = w' := by
  go_enter Try.func4, Try.ntmps4
  go_wp2_with fail
  refine (floatToByte x _ hx h1 h2).mono ?_
  rintro e w' ⟨rfl, rfl⟩
  go_wp2_with fail
  go_ret
  exact ⟨rfl, rfl⟩

theorem checks {x : Nat} (h0 : (Ieee.double.order x x != some .eq) = false) (h1 : (Ieee.double.order x 4831355200913801216 == some .gt) = false) (h2 : (Ieee.double.order x 14054727237768577024 == some .lt) = false) :
    FL.Fin x ∧ -1000000000000000 ≤ rv x ∧ rv x ≤ 1000000000000000 := by
  have hf : FL.Fin x := by
    obtain ⟨m, i, e1⟩ := read_fin f15
    obtain ⟨n, j, e2⟩ := read_fin f15n
    unfold Ieee.Format.order at h0 h1 h2
    rw [e1] at h1; rw [e2] at h2
    cases hr : Ieee.double.read x with
    | number s m p => exact fin_of_read hr
    | infinity s => rw [hr] at h1 h2; cases s <;> simp [Ieee.Datum.order] at h1 h2
    | nan s f => rw [hr] at h0; simp [Ieee.Datum.order] at h0
  refine ⟨hf, ?_, ?_⟩
  · rw [lt_iff hf f15n, c15n] at h2
    have := of_decide_eq_false h2
    grind
  · rw [gt_iff hf f15, c15] at h1
    have := of_decide_eq_false h1
    grind

set_option maxHeartbeats 1000000 in
theorem law3 (x y : Nat) (w : World) (_hx : (Lit.float .f64 x).wf = true) (_hy : (Lit.float .f64 y).wf = true) :
    Calls Try.prog 3 #[.float .f64 x, .float .f64 y] w fun e w' => e = .returned (.bool true) ∧ Below w.heap.size w w' := by
  cases a0 : (FloatKind.f64.format.order x x != some .eq)
  rotate_left
  · go_enter Try.func3, Try.ntmps3
    go_wp2
    go_ret
    exact ⟨rfl, Below.refl _ _⟩
  cases b0 : (FloatKind.f64.format.order y y != some .eq)
  rotate_left
  · go_enter Try.func3, Try.ntmps3
    go_wp2
    go_ret
    exact ⟨rfl, Below.refl _ _⟩
  cases a1 : (FloatKind.f64.format.order x 4831355200913801216 == some .gt)
  rotate_left
  · go_enter Try.func3, Try.ntmps3
    go_wp2
    go_ret
    exact ⟨rfl, Below.refl _ _⟩
  cases a2 : (FloatKind.f64.format.order x 14054727237768577024 == some .lt)
  rotate_left
  · go_enter Try.func3, Try.ntmps3
    go_wp2
    go_ret
    exact ⟨rfl, Below.refl _ _⟩
  cases b1 : (FloatKind.f64.format.order y 4831355200913801216 == some .gt)
  rotate_left
  · go_enter Try.func3, Try.ntmps3
    go_wp2
    go_ret
    exact ⟨rfl, Below.refl _ _⟩
  cases b2 : (FloatKind.f64.format.order y 14054727237768577024 == some .lt)
  rotate_left
  · go_enter Try.func3, Try.ntmps3
    go_wp2
    go_ret
    exact ⟨rfl, Below.refl _ _⟩
  obtain ⟨fx, lx, ux⟩ := checks a0 a1 a2
  obtain ⟨fy, ly, uy⟩ := checks b0 b1 b2
  cases hs : (FloatKind.f64.format.order x y == some .gt)
  · have hle : rv x ≤ rv y := by
      have := gt_iff fx fy
      have h2 : (Ieee.double.order x y == some .gt) = false := hs
      rw [this] at h2
      have := of_decide_eq_false h2
      grind
    have hm := clampB_mono (raw_mono fx fy lx ux ly uy hle)
    have hu := (clampB_le (raw y)).2
    have HX := Lib.hid fx
    have HY := Lib.hid fy
    have KX := Lib.hid (And.intro lx ux)
    have KY := Lib.hid (And.intro ly uy)
    clear fx fy lx ux ly uy hle
    go_enter Try.func3, Try.ntmps3
    go_wp2_with fail
    refine (zzByte x _ HX.out KX.out.1 KX.out.2).mono ?_
    rintro e w' ⟨rfl, rfl⟩
    go_wp2_with fail
    refine (zzByte y _ HY.out KY.out.1 KY.out.2).mono ?_
    rintro e w' ⟨rfl, rfl⟩
    generalize clampB (raw x) = p at *
    generalize clampB (raw y) = q at *
    go_wp2_with fail
    go_ret
    exact ⟨rfl, Below.refl _ _⟩
  · have hle : rv y ≤ rv x := by
      have := gt_iff fx fy
      have h2 : (Ieee.double.order x y == some .gt) = true := hs
      rw [this] at h2
      have := of_decide_eq_true h2
      grind
    have hm := clampB_mono (raw_mono fy fx ly uy lx ux hle)
    have hu := (clampB_le (raw x)).2
    have HX := Lib.hid fx
    have HY := Lib.hid fy
    have KX := Lib.hid (And.intro lx ux)
    have KY := Lib.hid (And.intro ly uy)
    clear fx fy lx ux ly uy hle
    go_enter Try.func3, Try.ntmps3
    go_wp2_with fail
    refine (zzByte y _ HY.out KY.out.1 KY.out.2).mono ?_
    rintro e w' ⟨rfl, rfl⟩
    go_wp2_with fail
    refine (zzByte x _ HX.out KX.out.1 KX.out.2).mono ?_
    rintro e w' ⟨rfl, rfl⟩
    generalize clampB (raw x) = p at *
    generalize clampB (raw y) = q at *
    go_wp2_with fail
    go_ret
    exact ⟨rfl, Below.refl _ _⟩
end Go.Proofs.Ytofppnnfgkpcgaa.R
