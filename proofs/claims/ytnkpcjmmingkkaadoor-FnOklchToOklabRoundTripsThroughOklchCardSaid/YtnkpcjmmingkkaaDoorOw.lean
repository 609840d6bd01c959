/- oklch_to_oklab, oklab_to_oklch and their ZZ wrappers: words in, words out. -/
import Derived.Test.YtnkpcjmmingkkaaDoorLw
namespace Go.Proofs.YtnkpcjmmingkkaaDoor.F64
open Go Go.RowKit Go.Lib Go.Proofs.YtnkpcjmmingkkaaDoor.FL
set_option linter.unusedVariables false
theorem Inv.start (w : World) (l c h t : Nat) : Inv w l c h ((((((w.alloc (.cells #[.float .f64 l] t)).alloc (.cells #[.float .f64 c] t)).alloc (.cells #[.float .f64 h] t)).alloc (.cells #[.float .f64 0] t)).alloc (.cells #[.float .f64 0] t)).alloc (.cells #[.float .f64 0] t)) := by
  unfold Inv
  refine ⟨((((((Below.refl _ w).alloc (Nat.le_refl _) _).alloc (by simp) _).alloc (by simp; omega) _).alloc (by simp; omega) _).alloc (by simp; omega) _).alloc (by simp; omega) _, ?_⟩
  simp [go_sem]
set_option maxRecDepth 100000 in
set_option maxHeartbeats 4000000 in
theorem okA (l c h p q : Nat) (w : World) (hT : SC w)
    (HP : ∀ W, SC W → Calls Tryd.prog 12 #[.agg #[.float .f64 l], .agg #[.float .f64 c], .agg #[.float .f64 h]] W
      fun e w' => e = .returned (.tuple #[.agg #[.float .f64 l], .agg #[.float .f64 p], .agg #[.float .f64 q]]) ∧ Below W.heap.size W w') :
    Calls Tryd.prog 8 #[.agg #[.float .f64 l], .agg #[.float .f64 c], .agg #[.float .f64 h]] w
      fun e w' => e = .returned (.tuple #[.agg #[.float .f64 l], .agg #[.float .f64 p], .agg #[.float .f64 q]]) ∧ Below w.heap.size w w' := by
  have IST := Lib.hid (Inv.start w l c h 29)
  have STEP := Lib.hid (fun w1 w2 (h : Inv w l c h w1) (hb : Below w1.heap.size w1 w2) => h.step hb)
  have LC := Lib.hid (fun w1 (h : Inv w l c h w1) => HP w1 (hT.below h.1 (Nat.le_refl _)))
  clear HP hT
  go_enter Tryd.func8, Tryd.ntmps8
  go_wp2_with fail
  refine (LC.out _ IST.out).mono ?_
  rintro e w1 ⟨rfl, hb⟩
  have hI := STEP.out _ _ IST.out hb
  have hJ := hI.1
  obtain ⟨v3, v4, v5, hv3, hv4, hv5⟩ := hI.some
  unfold Inv at hI
  clear hb
  obtain ⟨-, y0, y1, y2, -, -, -, y6, y7, y8, y9⟩ := hI
  go_wp2
  refine bodyPost_ret (v := .tuple #[.agg #[.float .f64 l], .agg #[.float .f64 p], .agg #[.float .f64 q]]) (by simp [results, Tryd.results8, go_sem, hv3, hv4, hv5]) rfl ⟨rfl, ?_⟩
  exact ((hJ.setCell (by simp; try omega) _).setCell (by simp; try omega) _).setCell (by simp; try omega) _
set_option maxRecDepth 100000 in
set_option maxHeartbeats 4000000 in
theorem okB (l c h p q : Nat) (w : World) (hT : SC w)
    (HP : ∀ W, SC W → Calls Tryd.prog 13 #[.agg #[.float .f64 l], .agg #[.float .f64 c], .agg #[.float .f64 h]] W
      fun e w' => e = .returned (.tuple #[.agg #[.float .f64 l], .agg #[.float .f64 p], .agg #[.float .f64 q]]) ∧ Below W.heap.size W w') :
    Calls Tryd.prog 11 #[.agg #[.float .f64 l], .agg #[.float .f64 c], .agg #[.float .f64 h]] w
      fun e w' => e = .returned (.tuple #[.agg #[.float .f64 l], .agg #[.float .f64 p], .agg #[.float .f64 q]]) ∧ Below w.heap.size w w' := by
  have IST := Lib.hid (Inv.start w l c h 29)
  have STEP := Lib.hid (fun w1 w2 (h : Inv w l c h w1) (hb : Below w1.heap.size w1 w2) => h.step hb)
  have LC := Lib.hid (fun w1 (h : Inv w l c h w1) => HP w1 (hT.below h.1 (Nat.le_refl _)))
  clear HP hT
  go_enter Tryd.func11, Tryd.ntmps11
  go_wp2_with fail
  refine (LC.out _ IST.out).mono ?_
  rintro e w1 ⟨rfl, hb⟩
  have hI := STEP.out _ _ IST.out hb
  have hJ := hI.1
  obtain ⟨v3, v4, v5, hv3, hv4, hv5⟩ := hI.some
  unfold Inv at hI
  clear hb
  obtain ⟨-, y0, y1, y2, -, -, -, y6, y7, y8, y9⟩ := hI
  go_wp2
  refine bodyPost_ret (v := .tuple #[.agg #[.float .f64 l], .agg #[.float .f64 p], .agg #[.float .f64 q]]) (by simp [results, Tryd.results11, go_sem, hv3, hv4, hv5]) rfl ⟨rfl, ?_⟩
  exact ((hJ.setCell (by simp; try omega) _).setCell (by simp; try omega) _).setCell (by simp; try omega) _
def ZInv (w w4 : World) (r0 r1 r2 : Nat) (w' : World) : Prop :=
  Below w.heap.size w w' ∧ w'.cell? ⟨w4.heap.size, 0, none⟩ = some (.float .f64 r0) ∧ w'.cell? ⟨w4.heap.size + 1, 0, none⟩ = some (.float .f64 r1) ∧ w'.cell? ⟨w4.heap.size + 1 + 1, 0, none⟩ = some (.float .f64 r2) ∧ w4.heap.size + 1 + 1 < w'.heap.size
theorem ZInv.step {w w4 : World} {r0 r1 r2 : Nat} {w1 w2 : World} (h : ZInv w w4 r0 r1 r2 w1) (hb : Below w1.heap.size w1 w2) : ZInv w w4 r0 r1 r2 w2 := by
  obtain ⟨hB, x0, x1, x2, x3⟩ := h
  have hc : ∀ b o, b < w1.heap.size → w2.cell? ⟨b, o, none⟩ = w1.cell? ⟨b, o, none⟩ := fun b o h => hb.cell (p := ⟨b, o, none⟩) h
  have hz := hb.size
  have hBz := hB.size
  exact ⟨hB.trans (hb.mono (by omega)), by rw [hc _ _ (by omega)]; exact x0, by rw [hc _ _ (by omega)]; exact x1, by rw [hc _ _ (by omega)]; exact x2, by omega⟩
theorem ZInv.start (w w4 : World) (r0 r1 r2 t : Nat) (hB : Below w.heap.size w w4) :
    ZInv w w4 r0 r1 r2 (((w4.alloc (.cells #[.float .f64 r0] t)).alloc (.cells #[.float .f64 r1] t)).alloc (.cells #[.float .f64 r2] t)).drew := by
  have hz := hB.size
  refine ⟨(((hB.alloc (by omega) _).alloc (by simp; omega) _).alloc (by simp; omega) _).drew, ?_⟩
  simp [go_sem]
set_option maxRecDepth 100000 in
set_option maxHeartbeats 1000000 in
theorem zzA (x y z p q : Nat) (w : World) (hT : SC w)
    (HP : ∀ W, SC W → Calls Tryd.prog 8 #[.agg #[.float .f64 x], .agg #[.float .f64 y], .agg #[.float .f64 z]] W
      fun e w' => e = .returned (.tuple #[.agg #[.float .f64 x], .agg #[.float .f64 p], .agg #[.float .f64 q]]) ∧ Below W.heap.size W w') :
    Calls Tryd.prog 4 #[.float .f64 x, .float .f64 y, .float .f64 z] w
      fun e w' => e = .returned (.tuple #[.float .f64 x, .float .f64 p, .float .f64 q]) ∧ Below w.heap.size w w' := by
  have H := Lib.hid (fun W (hb : Below w.heap.size w W) => HP W (hT.below hb (Nat.le_refl _)))
  clear HP hT
  go_enter Tryd.func4, Tryd.ntmps4
  go_wp2_with fail
  refine (newF64 x _).mono ?_
  rintro e w1 ⟨rfl, hb1⟩
  go_wp2_with fail
  refine (newF64 y _).mono ?_
  rintro e w2 ⟨rfl, hb2⟩
  go_wp2_with fail
  refine (newF64 z _).mono ?_
  rintro e w3 ⟨rfl, hb3⟩
  go_wp2_with fail
  refine (H.out _ ((hb1.trans (hb2.mono hb1.size)).trans (hb3.mono (Nat.le_trans hb1.size hb2.size)))).mono ?_
  rintro e w4 ⟨rfl, hb4⟩
  have hB : Below w.heap.size w w4 := ((hb1.trans (hb2.mono hb1.size)).trans (hb3.mono (Nat.le_trans hb1.size hb2.size))).trans (hb4.mono (Nat.le_trans (Nat.le_trans hb1.size hb2.size) hb3.size))
  clear hb1 hb2 hb3 hb4
  have hsz := hB.size
  go_wp2_with fail
  have STEP := Lib.hid (fun w1 w2 (h : ZInv w w4 x p q w1) (hb : Below w1.heap.size w1 w2) => h.step hb)
  have START := Lib.hid (ZInv.start w w4 x p q 29 hB)
  go_region_held3 (fun w' => Below w.heap.size w w' ∧ w'.cell? ⟨w4.heap.size, 0, none⟩ = some (.float .f64 x) ∧ w'.cell? ⟨w4.heap.size + 1, 0, none⟩ = some (.float .f64 p) ∧ w'.cell? ⟨w4.heap.size + 1 + 1, 0, none⟩ = some (.float .f64 q) ∧ w4.heap.size + 1 + 1 < w'.heap.size)
    (first | assumption | exact START.out)
    (first | (go_at_call 10; refine (value _ _).mono ?_; rintro e w1 ⟨rfl, hb⟩; have hI := STEP.out _ _ (by assumption) hb; unfold ZInv at hI; clear hb))
  go_wp2
  go_ret3
  exact ⟨rfl, And.left (show ZInv w w4 x p q _ by assumption)⟩
set_option maxRecDepth 100000 in
set_option maxHeartbeats 1000000 in
theorem zzD (x y z p q : Nat) (w : World) (hT : SC w)
    (HP : ∀ W, SC W → Calls Tryd.prog 11 #[.agg #[.float .f64 x], .agg #[.float .f64 y], .agg #[.float .f64 z]] W
      fun e w' => e = .returned (.tuple #[.agg #[.float .f64 x], .agg #[.float .f64 p], .agg #[.float .f64 q]]) ∧ Below W.heap.size W w') :
    Calls Tryd.prog 6 #[.float .f64 x, .float .f64 y, .float .f64 z] w
      fun e w' => e = .returned (.tuple #[.float .f64 x, .float .f64 p, .float .f64 q]) ∧ Below w.heap.size w w' := by
  have H := Lib.hid (fun W (hb : Below w.heap.size w W) => HP W (hT.below hb (Nat.le_refl _)))
  clear HP hT
  go_enter Tryd.func6, Tryd.ntmps6
  go_wp2_with fail
  refine (newF64 x _).mono ?_
  rintro e w1 ⟨rfl, hb1⟩
  go_wp2_with fail
  refine (newF64 y _).mono ?_
  rintro e w2 ⟨rfl, hb2⟩
  go_wp2_with fail
  refine (newF64 z _).mono ?_
  rintro e w3 ⟨rfl, hb3⟩
  go_wp2_with fail
  refine (H.out _ ((hb1.trans (hb2.mono hb1.size)).trans (hb3.mono (Nat.le_trans hb1.size hb2.size)))).mono ?_
  rintro e w4 ⟨rfl, hb4⟩
  have hB : Below w.heap.size w w4 := ((hb1.trans (hb2.mono hb1.size)).trans (hb3.mono (Nat.le_trans hb1.size hb2.size))).trans (hb4.mono (Nat.le_trans (Nat.le_trans hb1.size hb2.size) hb3.size))
  clear hb1 hb2 hb3 hb4
  have hsz := hB.size
  go_wp2_with fail
  have STEP := Lib.hid (fun w1 w2 (h : ZInv w w4 x p q w1) (hb : Below w1.heap.size w1 w2) => h.step hb)
  have START := Lib.hid (ZInv.start w w4 x p q 29 hB)
  go_region_held3 (fun w' => Below w.heap.size w w' ∧ w'.cell? ⟨w4.heap.size, 0, none⟩ = some (.float .f64 x) ∧ w'.cell? ⟨w4.heap.size + 1, 0, none⟩ = some (.float .f64 p) ∧ w'.cell? ⟨w4.heap.size + 1 + 1, 0, none⟩ = some (.float .f64 q) ∧ w4.heap.size + 1 + 1 < w'.heap.size)
    (first | assumption | exact START.out)
    (first | (go_at_call 10; refine (value _ _).mono ?_; rintro e w1 ⟨rfl, hb⟩; have hI := STEP.out _ _ (by assumption) hb; unfold ZInv at hI; clear hb))
  go_wp2
  go_ret3
  exact ⟨rfl, And.left (show ZInv w w4 x p q _ by assumption)⟩
end Go.Proofs.YtnkpcjmmingkkaaDoor.F64
