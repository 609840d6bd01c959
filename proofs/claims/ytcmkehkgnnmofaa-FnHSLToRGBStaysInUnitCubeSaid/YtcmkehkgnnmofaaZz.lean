/- The wrapper of hsl_to_rgb that the statements call. -/
import Derived.Test.YtcmkehkgnnmofaaHsl
namespace Go.Proofs.Ytcmkehkgnnmofaa.F64
open Go.RowKit
def ZInv (w w4 : World) (r0 r1 r2 : Nat) (w' : World) : Prop :=
  Below w.heap.size w w' ∧ w'.cell? ⟨w4.heap.size, 0, none⟩ = some (.float .f64 r0) ∧ w'.cell? ⟨w4.heap.size + 1, 0, none⟩ = some (.float .f64 r1) ∧ w'.cell? ⟨w4.heap.size + 1 + 1, 0, none⟩ = some (.float .f64 r2) ∧ w4.heap.size + 1 + 1 < w'.heap.size
theorem ZInv.step {w w4 : World} {r0 r1 r2 : Nat} {w1 w2 : World} (h : ZInv w w4 r0 r1 r2 w1) (hb : Below w1.heap.size w1 w2) : ZInv w w4 r0 r1 r2 w2 := by
  obtain ⟨hB, x0, x1, x2, x3⟩ := h
  have hc : ∀ b o, b < w1.heap.size → w2.cell? ⟨b, o, none⟩ = w1.cell? ⟨b, o, none⟩ := fun b o h => hb.cell (p := ⟨b, o, none⟩) h
  have hz := hb.size
  have hBz := hB.size
  exact ⟨hB.trans (hb.mono (by omega)), by rw [hc _ _ (by omega)]; exact x0, by rw [hc _ _ (by omega)]; exact x1, by rw [hc _ _ (by omega)]; exact x2, by omega⟩
theorem ZInv.start (w w4 : World) (r0 r1 r2 t : Nat) (hB : Below w.heap.size w w4) :
    ZInv w w4 r0 r1 r2 (((w4.alloc (.cells #[.float .f64 r0] t)).alloc (.cells #[.float .f64 r1] t)).alloc (.cells #[.float .f64 r2] t)).drew := by
  have hz := hB.size
  refine ⟨(((hB.alloc (by omega) _).alloc (by simp; omega) _).alloc (by simp; omega) _).drew, ?_⟩
  simp [go_sem]

def F3Post (Q : Nat → Prop) (w : World) (e : Ending) (w' : World) : Prop :=
  ∃ r0 r1 r2, Q r0 ∧ Q r1 ∧ Q r2 ∧ e = .returned (.tuple #[.float .f64 r0, .float .f64 r1, .float .f64 r2]) ∧ Below w.heap.size w w'

set_option maxRecDepth 100000 in
set_option maxHeartbeats 1000000 in
theorem zz (x y z : Nat) (Q : Nat → Prop) (w : World) (h : HslOK x y z Q) :
    Calls Try.prog 7 #[.float .f64 x, .float .f64 y, .float .f64 z] w (F3Post Q w) := by
  have H := Lib.hid h
  clear h
  go_enter Try.func7, Try.ntmps7
  go_wp2_with fail
  refine (newF64 x _).mono ?_
  rintro e w1 ⟨rfl, hb1⟩
  go_wp2_with fail
  refine (newF64 y _).mono ?_
  rintro e w2 ⟨rfl, hb2⟩
  go_wp2_with fail
  refine (newF64 z _).mono ?_
  rintro e w3 ⟨rfl, hb3⟩
  go_wp2_with fail
  refine (hsl x y z Q _ H.out).mono ?_
  rintro e w4 ⟨r0, r1, r2, hr0, hr1, hr2, rfl, hb4⟩
  have HR := Lib.hid (And.intro hr0 (And.intro hr1 hr2))
  have hB : Below w.heap.size w w4 := ((hb1.trans (hb2.mono hb1.size)).trans (hb3.mono (Nat.le_trans hb1.size hb2.size))).trans (hb4.mono (Nat.le_trans (Nat.le_trans hb1.size hb2.size) hb3.size))
  clear H hb1 hb2 hb3 hb4 hr0 hr1 hr2
  have hsz := hB.size
  go_wp2_with fail
  have STEP := Lib.hid (fun w1 w2 (h : ZInv w w4 r0 r1 r2 w1) (hb : Below w1.heap.size w1 w2) => h.step hb)
  have START := Lib.hid (ZInv.start w w4 r0 r1 r2 28 hB)
  go_region_held3 (fun w' => Below w.heap.size w w' ∧ w'.cell? ⟨w4.heap.size, 0, none⟩ = some (.float .f64 r0) ∧ w'.cell? ⟨w4.heap.size + 1, 0, none⟩ = some (.float .f64 r1) ∧ w'.cell? ⟨w4.heap.size + 1 + 1, 0, none⟩ = some (.float .f64 r2) ∧ w4.heap.size + 1 + 1 < w'.heap.size)
    (first | assumption | exact START.out)
    (first | (go_at_call 10; refine (value _ _).mono ?_; rintro e w1 ⟨rfl, hb⟩; have hI := STEP.out _ _ (by assumption) hb; unfold ZInv at hI; clear hb))
  go_wp2
  go_ret3
  exact ⟨r0, r1, r2, HR.out.1, HR.out.2.1, HR.out.2.2, rfl, And.left (show ZInv w w4 r0 r1 r2 _ by assumption)⟩
end Go.Proofs.Ytcmkehkgnnmofaa.F64
