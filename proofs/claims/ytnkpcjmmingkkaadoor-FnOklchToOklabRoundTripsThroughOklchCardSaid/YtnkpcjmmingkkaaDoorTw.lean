/- math.Sin, math.Cos, F64.Sin, F64.Cos and lch_to_lab: contracts. -/
import Derived.Test.YtnkpcjmmingkkaaDoorTrig
import Derived.Deep.RegionHeld3
import Derived.StillTactics
namespace Go.Proofs.YtnkpcjmmingkkaaDoor.F64
open Go Go.RowKit Go.Lib Go.Proofs.YtnkpcjmmingkkaaDoor.FL
set_option linter.unusedVariables false
theorem SC.below {n : Nat} {w w' : World} (h : SC w) (hb : Below n w w') (hn : w.heap.size ≤ n) : SC w' := by
  have hc : ∀ b o, b < w.heap.size → w'.cell? ⟨b, o, none⟩ = w.cell? ⟨b, o, none⟩ := fun b o h => hb.cell (p := ⟨b, o, none⟩) (by show b < n; omega)
  have hz := hb.size
  have hs := h.hs
  have hC := h.hc
  exact ⟨by rw [hc _ _ hs]; exact h.a0, by rw [hc _ _ hs]; exact h.a1, by rw [hc _ _ hs]; exact h.a2, by rw [hc _ _ hs]; exact h.a3, by rw [hc _ _ hs]; exact h.a4, by rw [hc _ _ hs]; exact h.a5,
    by rw [hc _ _ hC]; exact h.b0, by rw [hc _ _ hC]; exact h.b1, by rw [hc _ _ hC]; exact h.b2, by rw [hc _ _ hC]; exact h.b3, by rw [hc _ _ hC]; exact h.b4, by rw [hc _ _ hC]; exact h.b5, by omega, by omega⟩
theorem mCos (x v : Nat) (w : World) (h : Calls Tryd.prog 28 #[.float .f64 x] w (VP v w)) : Calls Tryd.prog 23 #[.float .f64 x] w (VP v w) := by
  have H := Lib.hid h
  clear h
  go_enter Tryd.func23, Tryd.ntmps23
  go_wp2_with (go_at_call 28; refine H.out.mono ?_; rintro e w1 ⟨rfl, hb⟩)
  go_ret
  exact ⟨rfl, hb⟩
theorem cosF (x v : Nat) (w : World) (hT : SC w) (h : ∀ W, SC W → Calls Tryd.prog 28 #[.float .f64 x] W (VP v W)) :
    Calls Tryd.prog 15 #[.agg #[.float .f64 x]] w fun e w' => e = .returned (.agg #[.float .f64 v]) ∧ Below w.heap.size w w' := by
  have H := Lib.hid (fun W (hb : Below w.heap.size w W) => mCos x v W (h W (hT.below hb (Nat.le_refl _))))
  have START := Lib.hid (fun (o1 o2 : Obj) => show Below w.heap.size w ((w.alloc o1).alloc o2) from ((Below.refl _ w).alloc (Nat.le_refl _) o1).alloc (by simp) o2)
  clear h hT
  go_enter Tryd.func15, Tryd.ntmps15
  go_wp2_with fail
  refine (H.out _ (START.out _ _)).mono ?_
  rintro e w1 ⟨rfl, hb⟩
  obtain ⟨hc, hf⟩ := bcell hb
  have hz : w.heap.size + 1 < w1.heap.size := by have := hb.size; simp at this; omega
  go_wp2_with fail
  refine (newF64 v _).mono ?_
  rintro e w2 ⟨rfl, hb2⟩
  obtain ⟨hc2, hf2⟩ := bcell hb2
  have hz2 : w.heap.size + 1 < w2.heap.size := by have := hb2.size; omega
  go_wp2
  refine bodyPost_ret (v := .agg #[.float .f64 v]) (by simp [results, Tryd.results15, go_sem, hc, hc2, hz]) rfl ⟨rfl, ?_⟩
  exact (((((Below.refl _ _).alloc (Nat.le_refl _) _).alloc (by simp) _).trans (hb.mono (by simp; omega))).trans (hb2.mono (by omega))).setCell (by simp) _
theorem mSin (x v : Nat) (w : World) (h : Calls Tryd.prog 30 #[.float .f64 x] w (VP v w)) : Calls Tryd.prog 24 #[.float .f64 x] w (VP v w) := by
  have H := Lib.hid h
  clear h
  go_enter Tryd.func24, Tryd.ntmps24
  go_wp2_with (go_at_call 30; refine H.out.mono ?_; rintro e w1 ⟨rfl, hb⟩)
  go_ret
  exact ⟨rfl, hb⟩
theorem sinF (x v : Nat) (w : World) (hT : SC w) (h : ∀ W, SC W → Calls Tryd.prog 30 #[.float .f64 x] W (VP v W)) :
    Calls Tryd.prog 17 #[.agg #[.float .f64 x]] w fun e w' => e = .returned (.agg #[.float .f64 v]) ∧ Below w.heap.size w w' := by
  have H := Lib.hid (fun W (hb : Below w.heap.size w W) => mSin x v W (h W (hT.below hb (Nat.le_refl _))))
  have START := Lib.hid (fun (o1 o2 : Obj) => show Below w.heap.size w ((w.alloc o1).alloc o2) from ((Below.refl _ w).alloc (Nat.le_refl _) o1).alloc (by simp) o2)
  clear h hT
  go_enter Tryd.func17, Tryd.ntmps17
  go_wp2_with fail
  refine (H.out _ (START.out _ _)).mono ?_
  rintro e w1 ⟨rfl, hb⟩
  obtain ⟨hc, hf⟩ := bcell hb
  have hz : w.heap.size + 1 < w1.heap.size := by have := hb.size; simp at this; omega
  go_wp2_with fail
  refine (newF64 v _).mono ?_
  rintro e w2 ⟨rfl, hb2⟩
  obtain ⟨hc2, hf2⟩ := bcell hb2
  have hz2 : w.heap.size + 1 < w2.heap.size := by have := hb2.size; omega
  go_wp2
  refine bodyPost_ret (v := .agg #[.float .f64 v]) (by simp [results, Tryd.results17, go_sem, hc, hc2, hz]) rfl ⟨rfl, ?_⟩
  exact (((((Below.refl _ _).alloc (Nat.le_refl _) _).alloc (by simp) _).trans (hb.mono (by simp; omega))).trans (hb2.mono (by omega))).setCell (by simp) _
theorem sto2 {P : Program} {w : World} {a : Addr} {m : Mode} (k : FloatKind) (n : Nat) (h : (w.cell? a).isSome = true) (hf : w.frozen? a = false) :
    (store a (.float k n) m).run P w = .ok () (w.setCell a (.float k n)) := by
  rw [sto]; unfold stored
  cases hh : w.cell? a with
  | none => rw [hh] at h; cases h
  | some r => simp [hf]
attribute [go_sem ↓] sto2
/-- What the region of lch_to_lab needs of memory: the boxes of the parameters and the results' cells. -/
def Inv (w : World) (l c h : Nat) (w' : World) : Prop :=
  Below w.heap.size w w' ∧ w'.cell? ⟨w.heap.size, 0, none⟩ = some (.float .f64 l) ∧ w'.cell? ⟨w.heap.size + 1, 0, none⟩ = some (.float .f64 c) ∧ w'.cell? ⟨w.heap.size + 1 + 1, 0, none⟩ = some (.float .f64 h) ∧ (w'.cell? ⟨w.heap.size + 1 + 1 + 1, 0, none⟩).isSome = true ∧ (w'.cell? ⟨w.heap.size + 1 + 1 + 1 + 1, 0, none⟩).isSome = true ∧ (w'.cell? ⟨w.heap.size + 1 + 1 + 1 + 1 + 1, 0, none⟩).isSome = true ∧ w'.frozen? ⟨w.heap.size + 1 + 1 + 1, 0, none⟩ = false ∧ w'.frozen? ⟨w.heap.size + 1 + 1 + 1 + 1, 0, none⟩ = false ∧ w'.frozen? ⟨w.heap.size + 1 + 1 + 1 + 1 + 1, 0, none⟩ = false ∧ w.heap.size + 1 + 1 + 1 + 1 + 1 < w'.heap.size
theorem Inv.step {w : World} {l c h : Nat} {w1 w2 : World} (H : Inv w l c h w1) (hb : Below w1.heap.size w1 w2) : Inv w l c h w2 := by
  obtain ⟨hbw, x0, x1, x2, x3, x4, x5, x6, x7, x8, x9⟩ := H
  have hc : ∀ b o, b < w1.heap.size → w2.cell? ⟨b, o, none⟩ = w1.cell? ⟨b, o, none⟩ := fun b o h => hb.cell (p := ⟨b, o, none⟩) h
  have hf : ∀ b o, b < w1.heap.size → w2.frozen? ⟨b, o, none⟩ = w1.frozen? ⟨b, o, none⟩ := fun b o h => hb.frozen (p := ⟨b, o, none⟩) h
  have hz := hb.size
  exact ⟨hbw.trans (hb.mono (by omega)),
    by rw [hc _ _ (by omega)]; exact x0,
    by rw [hc _ _ (by omega)]; exact x1,
    by rw [hc _ _ (by omega)]; exact x2,
    by rw [hc _ _ (by omega)]; exact x3,
    by rw [hc _ _ (by omega)]; exact x4,
    by rw [hc _ _ (by omega)]; exact x5,
    by rw [hf _ _ (by omega)]; exact x6,
    by rw [hf _ _ (by omega)]; exact x7,
    by rw [hf _ _ (by omega)]; exact x8,
    by omega⟩
theorem Inv.set3 {w : World} {l c h : Nat} {w1 : World} {v : Value} (H : Inv w l c h w1) : Inv w l c h (w1.setCell ⟨w.heap.size + 1 + 1 + 1, 0, none⟩ v) := by
  obtain ⟨hbw, x0, x1, x2, x3, x4, x5, x6, x7, x8, x9⟩ := H
  obtain ⟨v3, h3⟩ := Option.isSome_iff_exists.1 x3
  obtain ⟨v4, h4⟩ := Option.isSome_iff_exists.1 x4
  obtain ⟨v5, h5⟩ := Option.isSome_iff_exists.1 x5
  refine ⟨hbw.setCell (by simp; try omega) _, ?_⟩
  simp [go_sem, x0, x1, x2, h3, h4, h5, x6, x7, x8]
  omega
theorem Inv.set4 {w : World} {l c h : Nat} {w1 : World} {v : Value} (H : Inv w l c h w1) : Inv w l c h (w1.setCell ⟨w.heap.size + 1 + 1 + 1 + 1, 0, none⟩ v) := by
  obtain ⟨hbw, x0, x1, x2, x3, x4, x5, x6, x7, x8, x9⟩ := H
  obtain ⟨v3, h3⟩ := Option.isSome_iff_exists.1 x3
  obtain ⟨v4, h4⟩ := Option.isSome_iff_exists.1 x4
  obtain ⟨v5, h5⟩ := Option.isSome_iff_exists.1 x5
  refine ⟨hbw.setCell (by simp; try omega) _, ?_⟩
  simp [go_sem, x0, x1, x2, h3, h4, h5, x6, x7, x8]
  omega
theorem Inv.set5 {w : World} {l c h : Nat} {w1 : World} {v : Value} (H : Inv w l c h w1) : Inv w l c h (w1.setCell ⟨w.heap.size + 1 + 1 + 1 + 1 + 1, 0, none⟩ v) := by
  obtain ⟨hbw, x0, x1, x2, x3, x4, x5, x6, x7, x8, x9⟩ := H
  obtain ⟨v3, h3⟩ := Option.isSome_iff_exists.1 x3
  obtain ⟨v4, h4⟩ := Option.isSome_iff_exists.1 x4
  obtain ⟨v5, h5⟩ := Option.isSome_iff_exists.1 x5
  refine ⟨hbw.setCell (by simp; try omega) _, ?_⟩
  simp [go_sem, x0, x1, x2, h3, h4, h5, x6, x7, x8]
  omega
theorem Inv.some {w : World} {l c h : Nat} {w' : World} (H : Inv w l c h w') : ∃ v3 v4 v5, w'.cell? ⟨w.heap.size + 1 + 1 + 1, 0, none⟩ = Option.some v3 ∧ w'.cell? ⟨w.heap.size + 1 + 1 + 1 + 1, 0, none⟩ = Option.some v4 ∧ w'.cell? ⟨w.heap.size + 1 + 1 + 1 + 1 + 1, 0, none⟩ = Option.some v5 := by
  obtain ⟨_, _, _, _, x3, x4, x5, _, _, _, _⟩ := H
  obtain ⟨v3, h3⟩ := Option.isSome_iff_exists.1 x3
  obtain ⟨v4, h4⟩ := Option.isSome_iff_exists.1 x4
  obtain ⟨v5, h5⟩ := Option.isSome_iff_exists.1 x5
  exact ⟨v3, v4, v5, h3, h4, h5⟩
set_option maxRecDepth 100000 in
set_option maxHeartbeats 4000000 in
theorem polar (l c h t u v : Nat) (w : World) (hT : SC w) (ht : floatBits .mul .f64 h 4580687790476533049 = Option.some t)
    (HC : ∀ W, SC W → Calls Tryd.prog 28 #[.float .f64 t] W (VP u W)) (HS : ∀ W, SC W → Calls Tryd.prog 30 #[.float .f64 t] W (VP v W))
    (h1 : floatBits .mul .f64 u c = Option.some (fop .mul u c)) (h2 : floatBits .mul .f64 v c = Option.some (fop .mul v c)) :
    Calls Tryd.prog 12 #[.agg #[.float .f64 l], .agg #[.float .f64 c], .agg #[.float .f64 h]] w
      fun e w' => e = .returned (.tuple #[.agg #[.float .f64 l], .agg #[.float .f64 (fop .mul u c)], .agg #[.float .f64 (fop .mul v c)]]) ∧ Below w.heap.size w w' := by
  have START := Lib.hid (fun (o1 o2 o3 o4 o5 o6 : Obj) => show Below w.heap.size w ((((((w.alloc o1).alloc o2).alloc o3).alloc o4).alloc o5).alloc o6).drew from
    (((((((Below.refl _ w).alloc (Nat.le_refl _) o1).alloc (by simp) o2).alloc (by simp; omega) o3).alloc (by simp; omega) o4).alloc (by simp; omega) o5).alloc (by simp; omega) o6).drew)
  have STEP := Lib.hid (fun w1 w2 (h : Inv w l c h w1) (hb : Below w1.heap.size w1 w2) => h.step hb)
  have CO := Lib.hid (fun w1 (h : Inv w l c h w1) => cosF t u w1 (hT.below h.1 (Nat.le_refl _)) HC)
  have SI := Lib.hid (fun w1 (h : Inv w l c h w1) => sinF t v w1 (hT.below h.1 (Nat.le_refl _)) HS)
  have MT := Lib.hid (fun w1 => mulConst h 4580687790476533049 t w1 ht)
  have MU := Lib.hid (fun w1 => mul u c _ w1 h1)
  have MV := Lib.hid (fun w1 => mul v c _ w1 h2)
  clear ht HC HS h1 h2 hT
  generalize fop .mul u c = p at *
  generalize fop .mul v c = q at *
  go_enter Tryd.func12, Tryd.ntmps12
  go_wp2
  go_region_held3 (fun w' => Below w.heap.size w w' ∧ w'.cell? ⟨w.heap.size, 0, none⟩ = some (.float .f64 l) ∧ w'.cell? ⟨w.heap.size + 1, 0, none⟩ = some (.float .f64 c) ∧ w'.cell? ⟨w.heap.size + 1 + 1, 0, none⟩ = some (.float .f64 h) ∧ (w'.cell? ⟨w.heap.size + 1 + 1 + 1, 0, none⟩).isSome = true ∧ (w'.cell? ⟨w.heap.size + 1 + 1 + 1 + 1, 0, none⟩).isSome = true ∧ (w'.cell? ⟨w.heap.size + 1 + 1 + 1 + 1 + 1, 0, none⟩).isSome = true ∧ w'.frozen? ⟨w.heap.size + 1 + 1 + 1, 0, none⟩ = false ∧ w'.frozen? ⟨w.heap.size + 1 + 1 + 1 + 1, 0, none⟩ = false ∧ w'.frozen? ⟨w.heap.size + 1 + 1 + 1 + 1 + 1, 0, none⟩ = false ∧ w.heap.size + 1 + 1 + 1 + 1 + 1 < w'.heap.size)
    (first | assumption | exact Inv.set3 (by assumption) | exact Inv.set4 (by assumption) | exact Inv.set5 (by assumption) | (refine ⟨START.out _ _ _ _ _ _, ?_⟩; go_simp; done))
    (first
      | (go_at_call 14; refine (MT.out _).mono ?_; rintro e w1 ⟨rfl, hb⟩; have hI := STEP.out _ _ (by assumption) hb; obtain ⟨v3, v4, v5, hv3, hv4, hv5⟩ := hI.some; unfold Inv at hI; clear hb)
      | (go_at_call 15; refine (CO.out _ (by assumption)).mono ?_; rintro e w1 ⟨rfl, hb⟩; have hI := STEP.out _ _ (by assumption) hb; obtain ⟨v3, v4, v5, hv3, hv4, hv5⟩ := hI.some; unfold Inv at hI; clear hb)
      | (go_at_call 17; refine (SI.out _ (by assumption)).mono ?_; rintro e w1 ⟨rfl, hb⟩; have hI := STEP.out _ _ (by assumption) hb; obtain ⟨v3, v4, v5, hv3, hv4, hv5⟩ := hI.some; unfold Inv at hI; clear hb)
      | (go_at_call 16; (first | refine (MU.out _).mono ?_ | refine (MV.out _).mono ?_); rintro e w1 ⟨rfl, hb⟩; have hI := STEP.out _ _ (by assumption) hb; obtain ⟨v3, v4, v5, hv3, hv4, hv5⟩ := hI.some; unfold Inv at hI; clear hb))
  go_wp2
  refine bodyPost_ret (v := .tuple #[.agg #[.float .f64 l], .agg #[.float .f64 p], .agg #[.float .f64 q]]) (by simp [results, Tryd.results12, go_sem, hv3, hv4, hv5]) rfl ⟨rfl, ?_⟩
  exact And.left (show Inv w l c h _ by assumption)
end Go.Proofs.YtnkpcjmmingkkaaDoor.F64
