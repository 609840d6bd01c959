/- ZZhslToRgb and FnHslToRgbZeroSaturationIsExactGray. -/
import Derived.Test.YtcaiehnihgcegaaGray
namespace Go.Proofs.Ytcaiehnihgcegaa.F64
open Go.RowKit Go.Proofs.Ytcaiehnihgcegaa.FL
def ZInv (w w4 : World) (r0 r1 r2 : Nat) (w' : World) : Prop :=
  Below w.heap.size w w' ∧ w'.cell? ⟨w4.heap.size, 0, none⟩ = some (.float .f64 r0) ∧ w'.cell? ⟨w4.heap.size + 1, 0, none⟩ = some (.float .f64 r1) ∧ w'.cell? ⟨w4.heap.size + 1 + 1, 0, none⟩ = some (.float .f64 r2) ∧ w4.heap.size + 1 + 1 < w'.heap.size
theorem ZInv.step {w w4 : World} {r0 r1 r2 : Nat} {w1 w2 : World} (h : ZInv w w4 r0 r1 r2 w1) (hb : Below w1.heap.size w1 w2) : ZInv w w4 r0 r1 r2 w2 := by
  obtain ⟨hB, x0, x1, x2, x3⟩ := h
  have hc : ∀ b o, b < w1.heap.size → w2.cell? ⟨b, o, none⟩ = w1.cell? ⟨b, o, none⟩ := fun b o h => hb.cell (p := ⟨b, o, none⟩) h
  have hz := hb.size
  have hBz := hB.size
  exact ⟨hB.trans (hb.mono (by omega)), by rw [hc _ _ (by omega)]; exact x0, by rw [hc _ _ (by omega)]; exact x1, by rw [hc _ _ (by omega)]; exact x2, by omega⟩
theorem ZInv.start (w w4 : World) (r0 r1 r2 t : Nat) (hB : Below w.heap.size w w4) :
    ZInv w w4 r0 r1 r2 (((w4.alloc (.cells #[.float .f64 r0] t)).alloc (.cells #[.float .f64 r1] t)).alloc (.cells #[.float .f64 r2] t)).drew := by
  have hz := hB.size
  refine ⟨(((hB.alloc (by omega) _).alloc (by simp; omega) _).alloc (by simp; omega) _).drew, ?_⟩
  simp [go_sem]

set_option maxRecDepth 100000 in
set_option maxHeartbeats 1000000 in
theorem zzHsl (x y z : Nat) (w : World) :
    Calls Try.prog 8 #[.float .f64 x, .float .f64 y, .float .f64 z] w
      fun e w' => ∃ r g b, HslR x y z r g b ∧ e = .returned (.tuple #[.float .f64 r, .float .f64 g, .float .f64 b]) ∧ Below w.heap.size w w' := by
  go_enter Try.func8, Try.ntmps8
  go_wp2_with fail
  refine (newF64 x _).mono ?_
  rintro e w1 ⟨rfl, hb1⟩
  go_wp2_with fail
  refine (newF64 y _).mono ?_
  rintro e w2 ⟨rfl, hb2⟩
  go_wp2_with fail
  refine (newF64 z _).mono ?_
  rintro e w3 ⟨rfl, hb3⟩
  go_wp2_with fail
  refine (hsl x y z _).mono ?_
  rintro e w4 ⟨r0, r1, r2, hr, rfl, hb4⟩
  have HR := Lib.hid hr
  have hB : Below w.heap.size w w4 := ((hb1.trans (hb2.mono hb1.size)).trans (hb3.mono (Nat.le_trans hb1.size hb2.size))).trans (hb4.mono (Nat.le_trans (Nat.le_trans hb1.size hb2.size) hb3.size))
  clear hr hb1 hb2 hb3 hb4
  have hsz := hB.size
  go_wp2_with fail
  have STEP := Lib.hid (fun w1 w2 (h : ZInv w w4 r0 r1 r2 w1) (hb : Below w1.heap.size w1 w2) => h.step hb)
  have START := Lib.hid (ZInv.start w w4 r0 r1 r2 43 hB)
  go_region_held3 (fun w' => Below w.heap.size w w' ∧ w'.cell? ⟨w4.heap.size, 0, none⟩ = some (.float .f64 r0) ∧ w'.cell? ⟨w4.heap.size + 1, 0, none⟩ = some (.float .f64 r1) ∧ w'.cell? ⟨w4.heap.size + 1 + 1, 0, none⟩ = some (.float .f64 r2) ∧ w4.heap.size + 1 + 1 < w'.heap.size)
    (first | assumption | exact START.out)
    (first | (go_at_call 24; refine (value _ _).mono ?_; rintro e w1 ⟨rfl, hb⟩; have hI := STEP.out _ _ (by assumption) hb; unfold ZInv at hI; clear hb))
  go_wp2
  go_ret3
  exact ⟨r0, r1, r2, HR.out, rfl, And.left (show ZInv w w4 r0 r1 r2 _ by assumption)⟩

def lo300 (x : Nat) : Bool := (FloatKind.f64.format.order x 18318360957983683996 == some .gt || FloatKind.f64.format.order x 18318360957983683996 == some .eq)
def hi300 (x : Nat) : Bool := (FloatKind.f64.format.order x 9094988921128908188 == some .lt || FloatKind.f64.format.order x 9094988921128908188 == some .eq)
theorem flo : FL.Fin 18318360957983683996 := by unfold FL.Fin; decide
theorem fhi : FL.Fin 9094988921128908188 := by unfold FL.Fin; decide
theorem vlo : -p2 1022 ≤ rv 18318360957983683996 := by unfold p2; decide +kernel
theorem vhi : rv 9094988921128908188 ≤ p2 1022 := by unfold p2; decide +kernel
set_option maxRecDepth 100000 in
set_option maxHeartbeats 1000000 in
theorem law3 (h l : Nat) (w : World) (_hh : (Lit.float .f64 h).wf = true) (_hl : (Lit.float .f64 l).wf = true) : Calls Try.prog 3 #[.float .f64 h, .float .f64 l] w fun e w' => e = .returned (.bool true) ∧ Below w.heap.size w w' := by
  by_cases h1 : lo300 l = true
  · have o1 : (FloatKind.f64.format.order l 18318360957983683996 == some .gt || FloatKind.f64.format.order l 18318360957983683996 == some .eq) = true := h1
    by_cases h2 : hi300 l = true
    · have o2 : (FloatKind.f64.format.order l 9094988921128908188 == some .lt || FloatKind.f64.format.order l 9094988921128908188 == some .eq) = true := h2
      have fl : FL.Fin l := fin_between flo fhi h1 h2
      have l1 : rv 18318360957983683996 ≤ rv l := by simpa using (ge_iff fl flo).symm.trans h1
      have l2 : rv l ≤ rv 9094988921128908188 := by simpa using (le_iff fl fhi).symm.trans h2
      have HG := Lib.hid (fun r g b (hr : HslR h 0 l r g b) => gray fl (Rat.le_trans vlo l1) (Rat.le_trans l2 vhi) hr)
      have HE := Lib.hid (fun r (hr : FL.Fin r ∧ rv r = rv l) => show FloatKind.f64.format.order r l = some .eq by
        rcases order_fin hr.1 fl with ⟨c, _⟩ | ⟨_, c⟩ | ⟨c, _⟩
        · rw [hr.2] at c; grind
        · exact c
        · rw [hr.2] at c; grind)
      clear h1 h2 fl l1 l2
      go_enter Try.func3, Try.ntmps3
      go_wp2_with fail
      refine (zzHsl h 0 l _).mono ?_
      rintro e w2 ⟨r, g, b, hr, rfl, hb⟩
      obtain ⟨hR, hG, hB⟩ := HG.out r g b hr
      have e1 := HE.out r hR
      have e2 := HE.out g hG
      have e3 := HE.out b hB
      clear hr hR hG hB o1 o2
      go_wp2_with fail
      go_ret
      exact ⟨rfl, hb⟩
    · have o2 : (FloatKind.f64.format.order l 9094988921128908188 == some .lt || FloatKind.f64.format.order l 9094988921128908188 == some .eq) = false := by simpa [hi300] using h2
      clear h1 h2
      go_enter Try.func3, Try.ntmps3
      go_wp2_with fail
      go_ret
      exact ⟨rfl, Below.refl _ _⟩
  · have o1 : (FloatKind.f64.format.order l 18318360957983683996 == some .gt || FloatKind.f64.format.order l 18318360957983683996 == some .eq) = false := by simpa [lo300] using h1
    clear h1
    go_enter Try.func3, Try.ntmps3
    go_wp2_with fail
    go_ret
    exact ⟨rfl, Below.refl _ _⟩
end Go.Proofs.Ytcaiehnihgcegaa.F64
