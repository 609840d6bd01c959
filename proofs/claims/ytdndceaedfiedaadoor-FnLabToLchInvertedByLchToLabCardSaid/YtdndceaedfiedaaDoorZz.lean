/- ZZlchToLab. -/
import Derived.Test.YtdndceaedfiedaaDoorTw
namespace Go.Proofs.YtdndceaedfiedaaDoor.F64
open Go Go.RowKit Go.Lib Go.Proofs.YtdndceaedfiedaaDoor.FL
set_option linter.unusedVariables false
def ZInv (w w4 : World) (r0 r1 r2 : Nat) (w' : World) : Prop :=
  Below w.heap.size w w' ∧ w'.cell? ⟨w4.heap.size, 0, none⟩ = some (.float .f64 r0) ∧ w'.cell? ⟨w4.heap.size + 1, 0, none⟩ = some (.float .f64 r1) ∧ w'.cell? ⟨w4.heap.size + 1 + 1, 0, none⟩ = some (.float .f64 r2) ∧ w4.heap.size + 1 + 1 < w'.heap.size
theorem ZInv.step {w w4 : World} {r0 r1 r2 : Nat} {w1 w2 : World} (h : ZInv w w4 r0 r1 r2 w1) (hb : Below w1.heap.size w1 w2) : ZInv w w4 r0 r1 r2 w2 := by
  obtain ⟨hB, x0, x1, x2, x3⟩ := h
  have hc : ∀ b o, b < w1.heap.size → w2.cell? ⟨b, o, none⟩ = w1.cell? ⟨b, o, none⟩ := fun b o h => hb.cell (p := ⟨b, o, none⟩) h
  have hz := hb.size
  have hBz := hB.size
  exact ⟨hB.trans (hb.mono (by omega)), by rw [hc _ _ (by omega)]; exact x0, by rw [hc _ _ (by omega)]; exact x1, by rw [hc _ _ (by omega)]; exact x2, by omega⟩
theorem ZInv.start (w w4 : World) (r0 r1 r2 t : Nat) (hB : Below w.heap.size w w4) :
    ZInv w w4 r0 r1 r2 (((w4.alloc (.cells #[.float .f64 r0] t)).alloc (.cells #[.float .f64 r1] t)).alloc (.cells #[.float .f64 r2] t)).drew := by
  have hz := hB.size
  refine ⟨(((hB.alloc (by omega) _).alloc (by simp; omega) _).alloc (by simp; omega) _).drew, ?_⟩
  simp [go_sem]
set_option maxRecDepth 100000 in
set_option maxHeartbeats 1000000 in
theorem zz (x y z p q : Nat) (w : World) (hT : SC w)
    (HP : ∀ W, SC W → Calls Tryd.prog 11 #[.agg #[.float .f64 x], .agg #[.float .f64 y], .agg #[.float .f64 z]] W
      fun e w' => e = .returned (.tuple #[.agg #[.float .f64 x], .agg #[.float .f64 p], .agg #[.float .f64 q]]) ∧ Below W.heap.size W w') :
    Calls Tryd.prog 6 #[.float .f64 x, .float .f64 y, .float .f64 z] w
      fun e w' => e = .returned (.tuple #[.float .f64 x, .float .f64 p, .float .f64 q]) ∧ Below w.heap.size w w' := by
  have H := Lib.hid (fun W (hb : Below w.heap.size w W) => HP W (hT.below hb (Nat.le_refl _)))
  clear HP hT
  go_enter Tryd.func6, Tryd.ntmps6
  go_wp2_with fail
  refine (newF64 x _).mono ?_
  rintro e w1 ⟨rfl, hb1⟩
  go_wp2_with fail
  refine (newF64 y _).mono ?_
  rintro e w2 ⟨rfl, hb2⟩
  go_wp2_with fail
  refine (newF64 z _).mono ?_
  rintro e w3 ⟨rfl, hb3⟩
  go_wp2_with fail
  refine (H.out _ ((hb1.trans (hb2.mono hb1.size)).trans (hb3.mono (Nat.le_trans hb1.size hb2.size)))).mono ?_
  rintro e w4 ⟨rfl, hb4⟩
  have hB : Below w.heap.size w w4 := ((hb1.trans (hb2.mono hb1.size)).trans (hb3.mono (Nat.le_trans hb1.size hb2.size))).trans (hb4.mono (Nat.le_trans (Nat.le_trans hb1.size hb2.size) hb3.size))
  clear hb1 hb2 hb3 hb4
  have hsz := hB.size
  go_wp2_with fail
  have STEP := Lib.hid (fun w1 w2 (h : ZInv w w4 x p q w1) (hb : Below w1.heap.size w1 w2) => h.step hb)
  have START := Lib.hid (ZInv.start w w4 x p q 27 hB)
  go_region_held3 (fun w' => Below w.heap.size w w' ∧ w'.cell? ⟨w4.heap.size, 0, none⟩ = some (.float .f64 x) ∧ w'.cell? ⟨w4.heap.size + 1, 0, none⟩ = some (.float .f64 p) ∧ w'.cell? ⟨w4.heap.size + 1 + 1, 0, none⟩ = some (.float .f64 q) ∧ w4.heap.size + 1 + 1 < w'.heap.size)
    (first | assumption | exact START.out)
    (first | (go_at_call 10; refine (value _ _).mono ?_; rintro e w1 ⟨rfl, hb⟩; have hI := STEP.out _ _ (by assumption) hb; unfold ZInv at hI; clear hb))
  go_wp2
  go_ret3
  exact ⟨rfl, And.left (show ZInv w w4 x p q _ by assumption)⟩
end Go.Proofs.YtdndceaedfiedaaDoor.F64
