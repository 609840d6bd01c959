/- FnMangleCornersCaseTable: zzCheckValue. -/
import Derived.Test.YtnolnlekdlfeaaaDoorMk
namespace Go.Proofs.YtnolnlekdlfeaaaDoor.ZT
open Go.RowKit Go.Proofs.YtnolnlekdlfeaaaDoor.TB
set_option linter.unusedVariables false
theorem mn_le (y : Nat → Int) : 1 ≤ mn y ∧ mn y ≤ 4 := by
  unfold mn
  repeat' split
  all_goals omega
def same4 (y1 y2 : Nat → Int) : Bool := y1 0 == y2 0 && (y1 1 == y2 1 && (y1 2 == y2 2 && y1 3 == y2 3))
/-- What the checked tokens are. -/
def VP (y1 y2 : Nat → Int) (q1 q2 : Nat → Nat) (mw : Bool) (L : Nat) (K : Nat → Int) (T : Nat → ByteArray) (W : Nat → Int) : Prop :=
  (∀ i, i < mn y1 → K i = kq (q1 i) ∧ T i = tq (q1 i) ∧ W i = wsv (mn y1) mw i) ∧
  (same4 y1 y2 = true → L = mn y1) ∧
  (same4 y1 y2 = false → L = mn y1 + 1 + mn y2 ∧ (K (mn y1) = 24 ∧ T (mn y1) = ⟨#[47]⟩ ∧ W (mn y1) = if mw = true then 0 else 3) ∧ ∀ i, i < mn y2 → K (mn y1 + 1 + i) = kq (q2 i) ∧ T (mn y1 + 1 + i) = tq (q2 i) ∧ W (mn y1 + 1 + i) = wsv (mn y2) mw i)
set_option maxRecDepth 100000 in
set_option maxHeartbeats 4000000 in
theorem check14 (b o L c : Nat) (mw : Bool) (y1 y2 : Nat → Int) (q1 q2 : Nat → Nat) (K : Nat → Int) (T : Nat → ByteArray) (W : Nat → Int) (w : World) (r : TR w (some ⟨b, o, none⟩) L (tc K T W (fun _ => 0))) (hL : L ≤ 100)
    (h1 : ∀ i, i < 4 → 0 ≤ y1 i ∧ y1 i < 8 ∧ y1 i % 8 = (q1 i : Int) ∧ q1 i < 8) (h2 : ∀ i, i < 4 → 0 ≤ y2 i ∧ y2 i < 8 ∧ y2 i % 8 = (q2 i : Int) ∧ q2 i < 8) (hv : VP y1 y2 q1 q2 mw L K T W) :
    Calls Tryd.prog 14 #[.slice (some ⟨b, o, none⟩) L c, .agg #[.int .u8 (y1 0), .int .u8 (y1 1), .int .u8 (y1 2), .int .u8 (y1 3)], .agg #[.int .u8 (y2 0), .int .u8 (y2 1), .int .u8 (y2 2), .int .u8 (y2 3)], .bool mw] w fun e w' => e = .returned (.bool true) ∧ Below w.heap.size w w' := by
  have R := Lib.hid r
  have HV := Lib.hid hv
  have H1 := Lib.hid h1
  have H2 := Lib.hid h2
  clear r hv h1 h2
  obtain ⟨m1, HM1⟩ : ∃ m, Hid (mn y1 = m) := ⟨_, Lib.hid rfl⟩
  obtain ⟨m2, HM2⟩ : ∃ m, Hid (mn y2 = m) := ⟨_, Lib.hid rfl⟩
  have M1 := Lib.hid (show 1 ≤ m1 ∧ m1 ≤ 4 from HM1.out ▸ mn_le y1)
  have M2 := Lib.hid (show 1 ≤ m2 ∧ m2 ≤ 4 from HM2.out ▸ mn_le y2)
  have N1 := Lib.hid (fun W => minimal20 y1 W)
  have N2 := Lib.hid (fun W => minimal20 y2 W)
  rw [HM1.out] at N1
  rw [HM2.out] at N2
  have e48 := eq48
  have S0 := Lib.hid (show same4 y1 y2 = (y1 0 == y2 0 && (y1 1 == y2 1 && (y1 2 == y2 2 && y1 3 == y2 3))) from rfl)
  have BA := Lib.hid (show Blk ((w.alloc (.cells #[.int .u8 (y1 0), .int .u8 (y1 1), .int .u8 (y1 2), .int .u8 (y1 3)] 48)).alloc (.cells #[.int .u8 (y2 0), .int .u8 (y2 1), .int .u8 (y2 2), .int .u8 (y2 3)] 48)) w.heap.size 48 #[.int .u8 (y1 0), .int .u8 (y1 1), .int .u8 (y1 2), .int .u8 (y1 3)] ∧ Blk ((w.alloc (.cells #[.int .u8 (y1 0), .int .u8 (y1 1), .int .u8 (y1 2), .int .u8 (y1 3)] 48)).alloc (.cells #[.int .u8 (y2 0), .int .u8 (y2 1), .int .u8 (y2 2), .int .u8 (y2 3)] 48)) (w.heap.size + 1) 48 #[.int .u8 (y2 0), .int .u8 (y2 1), .int .u8 (y2 2), .int .u8 (y2 3)] ∧ Below w.heap.size w ((w.alloc (.cells #[.int .u8 (y1 0), .int .u8 (y1 1), .int .u8 (y1 2), .int .u8 (y1 3)] 48)).alloc (.cells #[.int .u8 (y2 0), .int .u8 (y2 1), .int .u8 (y2 2), .int .u8 (y2 3)] 48)) from
    ⟨(Blk.new w 48 _).alloc _, by simpa using Blk.new (w.alloc (.cells #[.int .u8 (y1 0), .int .u8 (y1 1), .int .u8 (y1 2), .int .u8 (y1 3)] 48)) 48 #[.int .u8 (y2 0), .int .u8 (y2 1), .int .u8 (y2 2), .int .u8 (y2 3)], ((Below.refl _ _).alloc (Nat.le_refl _) _).alloc (by simp) _⟩)
  go_enter Tryd.func14, Tryd.ntmps14
  go_wp2_with fail
  generalize (w.alloc (.cells #[.int .u8 (y1 0), .int .u8 (y1 1), .int .u8 (y1 2), .int .u8 (y1 3)] 48)).alloc (.cells #[.int .u8 (y2 0), .int .u8 (y2 1), .int .u8 (y2 2), .int .u8 (y2 3)] 48) = W0 at *
  obtain ⟨ab, hab⟩ : ∃ ab, w.heap.size = ab := ⟨_, rfl⟩
  simp only [hab] at BA ⊢
  have HAB := Lib.hid hab
  clear hab
  refine (N1.out _).mono ?_
  rintro e W1 ⟨rfl, hb⟩
  have A1 := Lib.hid (show Blk W1 ab 48 #[.int .u8 (y1 0), .int .u8 (y1 1), .int .u8 (y1 2), .int .u8 (y1 3)] ∧ Blk W1 (ab + 1) 48 #[.int .u8 (y2 0), .int .u8 (y2 1), .int .u8 (y2 2), .int .u8 (y2 3)] ∧ Below ab w W1 from ⟨BA.out.1.below hb BA.out.1.lt, BA.out.2.1.below hb BA.out.2.1.lt, BA.out.2.2.trans (hb.mono (by have := BA.out.1.lt; omega))⟩)
  clear hb BA
  have a0 : W1.cell? ⟨ab, 0, none⟩ = some (.int .u8 (y1 0)) := A1.out.1.cell 0
  have a1 : W1.cell? ⟨ab, 1, none⟩ = some (.int .u8 (y1 1)) := A1.out.1.cell 1
  have a2 : W1.cell? ⟨ab, 2, none⟩ = some (.int .u8 (y1 2)) := A1.out.1.cell 2
  have a3 : W1.cell? ⟨ab, 3, none⟩ = some (.int .u8 (y1 3)) := A1.out.1.cell 3
  have b0 : W1.cell? ⟨ab + 1, 0, none⟩ = some (.int .u8 (y2 0)) := A1.out.2.1.cell 0
  have b1 : W1.cell? ⟨ab + 1, 1, none⟩ = some (.int .u8 (y2 1)) := A1.out.2.1.cell 1
  have b2 : W1.cell? ⟨ab + 1, 2, none⟩ = some (.int .u8 (y2 2)) := A1.out.2.1.cell 2
  have b3 : W1.cell? ⟨ab + 1, 3, none⟩ = some (.int .u8 (y2 3)) := A1.out.2.1.cell 3
  go_upto_if 17 with fail
  clear e48
  cases hs : same4 y1 y2
  case true =>
    have hs' := S0.out.symm.trans hs
    have HL := Lib.hid (HV.out.2.1 hs)
    rw [HM1.out] at HL
    have CK := Lib.hid (fun X (h : TR X (some ⟨b, o, none⟩) L (tc K T W (fun _ => 0))) => check21 b o L c 0 m1 mw y1 q1 K T W X h M1.out.2 (by have := HL.out; omega) hL H1.out (fun i hi => by rw [Nat.zero_add]; have := HV.out.1 i (by rw [HM1.out]; exact hi); rw [HM1.out] at this; exact this))
    have hLm : (L : Int) = (m1 : Int) := by have := HL.out; omega
    have BW := Lib.hid (show Below w.heap.size w W1 from by rw [HAB.out]; exact A1.out.2.2)
    have RT := Lib.hid (R.out.below BW.out)
    rw [hs']
    clear hs hs'
    go_wp2_with fail
    refine (CK.out _ RT.out).mono ?_
    rintro e W2 ⟨rfl, hb⟩
    have B2 := Lib.hid (BW.out.trans (hb.mono BW.out.size))
    clear hb CK
    go_wp2_with fail
    go_ret
    exact ⟨by simp, B2.out⟩
  case false =>
    have hs' := S0.out.symm.trans hs
    have V2 := Lib.hid (HV.out.2.2 hs)
    have HLL := Lib.hid (show L = m1 + 1 + m2 from by have := V2.out.1; rw [HM1.out, HM2.out] at this; exact this)
    have BW := Lib.hid (show Below w.heap.size w W1 from by rw [HAB.out]; exact A1.out.2.2)
    rw [hs']
    clear hs hs'
    go_wp2_with fail
    refine (N2.out _).mono ?_
    rintro e W2 ⟨rfl, hb⟩
    have A2 := Lib.hid (And.intro (A1.out.1.below hb A1.out.1.lt) (A1.out.2.1.below hb A1.out.2.1.lt))
    have B2 := Lib.hid (BW.out.trans (hb.mono BW.out.size))
    clear hb a0 a1 a2 a3 b0 b1 b2 b3 A1 BW N1 N2
    have a0 : W2.cell? ⟨ab, 0, none⟩ = some (.int .u8 (y1 0)) := A2.out.1.cell 0
    have a1 : W2.cell? ⟨ab, 1, none⟩ = some (.int .u8 (y1 1)) := A2.out.1.cell 1
    have a2 : W2.cell? ⟨ab, 2, none⟩ = some (.int .u8 (y1 2)) := A2.out.1.cell 2
    have a3 : W2.cell? ⟨ab, 3, none⟩ = some (.int .u8 (y1 3)) := A2.out.1.cell 3
    have hw1 : IntKind.i64.wrap ((m1 : Int) + 1) = (m1 : Int) + 1 := by rw [IntKind.wrap_i64]; have := M1.out; omega
    have hw2 : IntKind.i64.wrap ((m1 : Int) + 1 + (m2 : Int)) = (L : Int) := by rw [IntKind.wrap_i64]; have := M1.out; have := M2.out; have := HLL.out; omega
    have CK := Lib.hid (fun X (h : TR X (some ⟨b, o, none⟩) L (tc K T W (fun _ => 0))) => check21 b o L c 0 m1 mw y1 q1 K T W X h M1.out.2 (by have := HLL.out; omega) hL H1.out (fun i hi => by rw [Nat.zero_add]; have := HV.out.1 i (by rw [HM1.out]; exact hi); rw [HM1.out] at this; exact this))
    have CL := Lib.hid (fun X (h : TR X (some ⟨b, o, none⟩) L (tc K T W (fun _ => 0))) => check21 b o L c (m1 + 1) m2 mw y2 q2 K T W X h M2.out.2 (by have := HLL.out; omega) hL H2.out (fun i hi => by have := V2.out.2.2 i (by rw [HM2.out]; exact hi); rw [HM1.out, HM2.out] at this; exact this))
    have RT := Lib.hid (R.out.below B2.out)
    go_wp2_with fail
    refine (CK.out _ RT.out).mono ?_
    rintro e W3 ⟨rfl, hb⟩
    have A3 := Lib.hid (And.intro (A2.out.1.below hb A2.out.1.lt) (A2.out.2.below hb A2.out.2.lt))
    have B3 := Lib.hid (B2.out.trans (hb.mono B2.out.size))
    clear hb a0 a1 a2 a3 A2 B2 RT CK
    obtain ⟨b', o', eA, hbl, hc⟩ := (R.out.below B3.out) (by have := HLL.out; omega)
    injection eA with eA
    injection eA with e1 e2
    subst e1 e2
    have sk := V2.out.2.1
    rw [HM1.out] at sk
    obtain ⟨s1, s2, s3⟩ := sk
    have q1' : (0 : Int) ≤ (m1 : Int) := by omega
    have q2' : (m1 : Int) < (L : Int) := by have := HLL.out; omega
    obtain ⟨ws, HWS⟩ : ∃ ws, Hid ((if mw = true then (0 : Int) else 3) = ws) := ⟨_, Lib.hid rfl⟩
    rw [HWS.out] at s3
    have x0 : W3.cell? ⟨b, o + m1 * 7, none⟩ = some (.pointer none) := by have h := hc m1 0 (by have := HLL.out; omega) (by omega); rw [Nat.add_zero] at h; rw [h]; rfl
    have x1 : W3.cell? ⟨b, o + m1 * 7 + 1, none⟩ = some (.string ⟨#[47]⟩) := by have h := hc m1 1 (by have := HLL.out; omega) (by omega); rw [h]; unfold tc; rw [s2]; rfl
    have x2 : W3.cell? ⟨b, o + m1 * 7 + 2, none⟩ = some (.int .i32 0) := by have h := hc m1 2 (by have := HLL.out; omega) (by omega); rw [h]; rfl
    have x3 : W3.cell? ⟨b, o + m1 * 7 + 3, none⟩ = some (.int .u32 0) := by have h := hc m1 3 (by have := HLL.out; omega) (by omega); rw [h]; rfl
    have x4 : W3.cell? ⟨b, o + m1 * 7 + 4, none⟩ = some (.int .u16 0) := by have h := hc m1 4 (by have := HLL.out; omega) (by omega); rw [h]; rfl
    have x5 : W3.cell? ⟨b, o + m1 * 7 + 5, none⟩ = some (.int .u8 24) := by have h := hc m1 5 (by have := HLL.out; omega) (by omega); rw [h]; unfold tc; rw [s1]; rfl
    have x6 : W3.cell? ⟨b, o + m1 * 7 + 6, none⟩ = some (.int .u8 ws) := by have h := hc m1 6 (by have := HLL.out; omega) (by omega); rw [h]; unfold tc; rw [s3]; rfl
    clear hc s1 s2 s3
    have ne : ¬ b = W3.heap.size := by omega
    have ne2 : ¬ W3.heap.size = b := by omega
    have hal := A3.out.2.lt
    have ne3 : ¬ ab + 1 = W3.heap.size := by omega
    have ne4 : ¬ W3.heap.size = ab + 1 := by omega
    have b0 : W3.cell? ⟨ab + 1, 0, none⟩ = some (.int .u8 (y2 0)) := A3.out.2.cell 0
    have b1 : W3.cell? ⟨ab + 1, 1, none⟩ = some (.int .u8 (y2 1)) := A3.out.2.cell 1
    have b2 : W3.cell? ⟨ab + 1, 2, none⟩ = some (.int .u8 (y2 2)) := A3.out.2.cell 2
    have b3 : W3.cell? ⟨ab + 1, 3, none⟩ = some (.int .u8 (y2 3)) := A3.out.2.cell 3
    have TL := Lib.hid (fun (ob : Obj) => show TR (W3.alloc ob) (some ⟨b, o, none⟩) L (tc K T W (fun _ => 0)) ∧ Below w.heap.size w (W3.alloc ob) from ⟨R.out.below (B3.out.alloc B3.out.size ob), B3.out.alloc B3.out.size ob⟩)
    cases mw
    case' true =>
      obtain rfl : (0 : Int) = ws := HWS.out
      go_wp2_with fail
    case' false =>
      obtain rfl : (3 : Int) = ws := HWS.out
      go_wp2_with fail
    all_goals
      refine (CL.out _ (TL.out _).1).mono ?_
      rintro e W4 ⟨rfl, hb⟩
      have B4 := Lib.hid ((TL.out _).2.trans (hb.mono (TL.out _).2.size))
      clear hb CL
      go_wp2_with fail
      go_ret
      exact ⟨by simp, B4.out⟩
end Go.Proofs.YtnolnlekdlfeaaaDoor.ZT
