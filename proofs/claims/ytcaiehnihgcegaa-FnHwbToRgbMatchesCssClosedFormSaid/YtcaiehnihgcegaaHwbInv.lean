/- Invariants of hwbToRgb's walk. Written by inv.py. -/
import Derived.Test.YtcaiehnihgcegaaHsl
namespace Go.Proofs.Ytcaiehnihgcegaa.F64
open Go.RowKit
def WA (w : World) (h s l : Nat) (w' : World) : Prop :=
  Below w.heap.size w w' ∧ w'.cell? ⟨w.heap.size, 0, none⟩ = some (.float .f64 h) ∧ w'.cell? ⟨w.heap.size + 1, 0, none⟩ = some (.float .f64 s) ∧ w'.cell? ⟨w.heap.size + 1 + 1, 0, none⟩ = some (.float .f64 l) ∧ (w'.cell? ⟨w.heap.size + 1 + 1 + 1, 0, none⟩).isSome = true ∧ (w'.cell? ⟨w.heap.size + 1 + 1 + 1 + 1, 0, none⟩).isSome = true ∧ (w'.cell? ⟨w.heap.size + 1 + 1 + 1 + 1 + 1, 0, none⟩).isSome = true ∧ w'.frozen? ⟨w.heap.size, 0, none⟩ = false ∧ w'.frozen? ⟨w.heap.size + 1, 0, none⟩ = false ∧ w'.frozen? ⟨w.heap.size + 1 + 1, 0, none⟩ = false ∧ w'.frozen? ⟨w.heap.size + 1 + 1 + 1, 0, none⟩ = false ∧ w'.frozen? ⟨w.heap.size + 1 + 1 + 1 + 1, 0, none⟩ = false ∧ w'.frozen? ⟨w.heap.size + 1 + 1 + 1 + 1 + 1, 0, none⟩ = false ∧ w.heap.size + 1 + 1 + 1 + 1 + 1 < w'.heap.size
theorem WA.step {w : World} {h s l : Nat} {w1 w2 : World} (hyp : WA w h s l w1) (hb : Below w1.heap.size w1 w2) : WA w h s l w2 := by
  obtain ⟨x0, x1, x2, x3, x4, x5, x6, x7, x8, x9, x10, x11, x12, x13⟩ := hyp
  have hc : ∀ b o, b < w1.heap.size → w2.cell? ⟨b, o, none⟩ = w1.cell? ⟨b, o, none⟩ := fun b o h => hb.cell (p := ⟨b, o, none⟩) h
  have hf : ∀ b o, b < w1.heap.size → w2.frozen? ⟨b, o, none⟩ = w1.frozen? ⟨b, o, none⟩ := fun b o h => hb.frozen (p := ⟨b, o, none⟩) h
  have hz := hb.size
  have hB := x0.size
  exact ⟨x0.trans (hb.mono (by omega)), by rw [hc _ _ (by omega)]; exact x1, by rw [hc _ _ (by omega)]; exact x2, by rw [hc _ _ (by omega)]; exact x3, by rw [hc _ _ (by omega)]; exact x4, by rw [hc _ _ (by omega)]; exact x5, by rw [hc _ _ (by omega)]; exact x6, by rw [hf _ _ (by omega)]; exact x7, by rw [hf _ _ (by omega)]; exact x8, by rw [hf _ _ (by omega)]; exact x9, by rw [hf _ _ (by omega)]; exact x10, by rw [hf _ _ (by omega)]; exact x11, by rw [hf _ _ (by omega)]; exact x12, by omega⟩
theorem WA.put0 {w : World} {h s l : Nat} {w1 : World} (hyp : WA w h s l w1) (v : Nat) : WA w v s l (w1.setCell ⟨w.heap.size, 0, none⟩ (.float .f64 v)) := by
  obtain ⟨x0, x1, x2, x3, x4, x5, x6, x7, x8, x9, x10, x11, x12, x13⟩ := hyp
  have hB := x0.size
  obtain ⟨u3, s3⟩ := Option.isSome_iff_exists.1 x4
  obtain ⟨u4, s4⟩ := Option.isSome_iff_exists.1 x5
  obtain ⟨u5, s5⟩ := Option.isSome_iff_exists.1 x6
  refine ⟨x0.setCell (by show w.heap.size ≤ w.heap.size; omega) _, ?_, ?_, ?_, ?_, ?_, ?_, ?_, ?_, ?_, ?_, ?_, ?_, by simpa using x13⟩
  all_goals (set_option linter.unusedSimpArgs false in simp [go_sem, x1, x2, x3, s3, s4, s5, x7, x8, x9, x10, x11, x12])
theorem WA.put1 {w : World} {h s l : Nat} {w1 : World} (hyp : WA w h s l w1) (v : Nat) : WA w h v l (w1.setCell ⟨w.heap.size + 1, 0, none⟩ (.float .f64 v)) := by
  obtain ⟨x0, x1, x2, x3, x4, x5, x6, x7, x8, x9, x10, x11, x12, x13⟩ := hyp
  have hB := x0.size
  obtain ⟨u3, s3⟩ := Option.isSome_iff_exists.1 x4
  obtain ⟨u4, s4⟩ := Option.isSome_iff_exists.1 x5
  obtain ⟨u5, s5⟩ := Option.isSome_iff_exists.1 x6
  refine ⟨x0.setCell (by show w.heap.size ≤ w.heap.size + 1; omega) _, ?_, ?_, ?_, ?_, ?_, ?_, ?_, ?_, ?_, ?_, ?_, ?_, by simpa using x13⟩
  all_goals (set_option linter.unusedSimpArgs false in simp [go_sem, x1, x2, x3, s3, s4, s5, x7, x8, x9, x10, x11, x12])
theorem WA.put2 {w : World} {h s l : Nat} {w1 : World} (hyp : WA w h s l w1) (v : Nat) : WA w h s v (w1.setCell ⟨w.heap.size + 1 + 1, 0, none⟩ (.float .f64 v)) := by
  obtain ⟨x0, x1, x2, x3, x4, x5, x6, x7, x8, x9, x10, x11, x12, x13⟩ := hyp
  have hB := x0.size
  obtain ⟨u3, s3⟩ := Option.isSome_iff_exists.1 x4
  obtain ⟨u4, s4⟩ := Option.isSome_iff_exists.1 x5
  obtain ⟨u5, s5⟩ := Option.isSome_iff_exists.1 x6
  refine ⟨x0.setCell (by show w.heap.size ≤ w.heap.size + 1 + 1; omega) _, ?_, ?_, ?_, ?_, ?_, ?_, ?_, ?_, ?_, ?_, ?_, ?_, by simpa using x13⟩
  all_goals (set_option linter.unusedSimpArgs false in simp [go_sem, x1, x2, x3, s3, s4, s5, x7, x8, x9, x10, x11, x12])
theorem WA.put3 {w : World} {h s l : Nat} {w1 : World} (hyp : WA w h s l w1) (v : Value) : WA w h s l (w1.setCell ⟨w.heap.size + 1 + 1 + 1, 0, none⟩ v) := by
  obtain ⟨x0, x1, x2, x3, x4, x5, x6, x7, x8, x9, x10, x11, x12, x13⟩ := hyp
  have hB := x0.size
  obtain ⟨u3, s3⟩ := Option.isSome_iff_exists.1 x4
  obtain ⟨u4, s4⟩ := Option.isSome_iff_exists.1 x5
  obtain ⟨u5, s5⟩ := Option.isSome_iff_exists.1 x6
  refine ⟨x0.setCell (by show w.heap.size ≤ w.heap.size + 1 + 1 + 1; omega) _, ?_, ?_, ?_, ?_, ?_, ?_, ?_, ?_, ?_, ?_, ?_, ?_, by simpa using x13⟩
  all_goals (set_option linter.unusedSimpArgs false in simp [go_sem, x1, x2, x3, s3, s4, s5, x7, x8, x9, x10, x11, x12])
theorem WA.put4 {w : World} {h s l : Nat} {w1 : World} (hyp : WA w h s l w1) (v : Value) : WA w h s l (w1.setCell ⟨w.heap.size + 1 + 1 + 1 + 1, 0, none⟩ v) := by
  obtain ⟨x0, x1, x2, x3, x4, x5, x6, x7, x8, x9, x10, x11, x12, x13⟩ := hyp
  have hB := x0.size
  obtain ⟨u3, s3⟩ := Option.isSome_iff_exists.1 x4
  obtain ⟨u4, s4⟩ := Option.isSome_iff_exists.1 x5
  obtain ⟨u5, s5⟩ := Option.isSome_iff_exists.1 x6
  refine ⟨x0.setCell (by show w.heap.size ≤ w.heap.size + 1 + 1 + 1 + 1; omega) _, ?_, ?_, ?_, ?_, ?_, ?_, ?_, ?_, ?_, ?_, ?_, ?_, by simpa using x13⟩
  all_goals (set_option linter.unusedSimpArgs false in simp [go_sem, x1, x2, x3, s3, s4, s5, x7, x8, x9, x10, x11, x12])
theorem WA.put5 {w : World} {h s l : Nat} {w1 : World} (hyp : WA w h s l w1) (v : Value) : WA w h s l (w1.setCell ⟨w.heap.size + 1 + 1 + 1 + 1 + 1, 0, none⟩ v) := by
  obtain ⟨x0, x1, x2, x3, x4, x5, x6, x7, x8, x9, x10, x11, x12, x13⟩ := hyp
  have hB := x0.size
  obtain ⟨u3, s3⟩ := Option.isSome_iff_exists.1 x4
  obtain ⟨u4, s4⟩ := Option.isSome_iff_exists.1 x5
  obtain ⟨u5, s5⟩ := Option.isSome_iff_exists.1 x6
  refine ⟨x0.setCell (by show w.heap.size ≤ w.heap.size + 1 + 1 + 1 + 1 + 1; omega) _, ?_, ?_, ?_, ?_, ?_, ?_, ?_, ?_, ?_, ?_, ?_, ?_, by simpa using x13⟩
  all_goals (set_option linter.unusedSimpArgs false in simp [go_sem, x1, x2, x3, s3, s4, s5, x7, x8, x9, x10, x11, x12])
theorem WA.above {w : World} {h s l : Nat} {w1 : World} {M0 : Nat} (hyp : WA w h s l w1) (hM : w.heap.size + 1 + 1 + 1 + 1 + 1 < M0) (v : Value) : WA w h s l (w1.setCell ⟨M0, 0, none⟩ v) := by
  obtain ⟨x0, x1, x2, x3, x4, x5, x6, x7, x8, x9, x10, x11, x12, x13⟩ := hyp
  have hB := x0.size
  obtain ⟨u3, s3⟩ := Option.isSome_iff_exists.1 x4
  obtain ⟨u4, s4⟩ := Option.isSome_iff_exists.1 x5
  obtain ⟨u5, s5⟩ := Option.isSome_iff_exists.1 x6
  have e0 : ¬ M0 = w.heap.size := by omega
  have d0 : ¬ w.heap.size = M0 := by omega
  have e1 : ¬ M0 = w.heap.size + 1 := by omega
  have d1 : ¬ w.heap.size + 1 = M0 := by omega
  have e2 : ¬ M0 = w.heap.size + 1 + 1 := by omega
  have d2 : ¬ w.heap.size + 1 + 1 = M0 := by omega
  have e3 : ¬ M0 = w.heap.size + 1 + 1 + 1 := by omega
  have d3 : ¬ w.heap.size + 1 + 1 + 1 = M0 := by omega
  have e4 : ¬ M0 = w.heap.size + 1 + 1 + 1 + 1 := by omega
  have d4 : ¬ w.heap.size + 1 + 1 + 1 + 1 = M0 := by omega
  have e5 : ¬ M0 = w.heap.size + 1 + 1 + 1 + 1 + 1 := by omega
  have d5 : ¬ w.heap.size + 1 + 1 + 1 + 1 + 1 = M0 := by omega
  refine ⟨x0.setCell (by show w.heap.size ≤ M0; omega) _, ?_, ?_, ?_, ?_, ?_, ?_, ?_, ?_, ?_, ?_, ?_, ?_, by simpa using x13⟩
  all_goals (set_option linter.unusedSimpArgs false in simp [go_sem, x1, x2, x3, s3, s4, s5, x7, x8, x9, x10, x11, x12, e0, d0, e1, d1, e2, d2, e3, d3, e4, d4, e5, d5])
theorem WA.ex3 {w : World} {h s l : Nat} {w1 : World} (hyp : WA w h s l w1) : ∃ v, w1.cell? ⟨w.heap.size + 1 + 1 + 1, 0, none⟩ = Option.some v := Option.isSome_iff_exists.1 hyp.2.2.2.2.1
theorem WA.ex4 {w : World} {h s l : Nat} {w1 : World} (hyp : WA w h s l w1) : ∃ v, w1.cell? ⟨w.heap.size + 1 + 1 + 1 + 1, 0, none⟩ = Option.some v := Option.isSome_iff_exists.1 hyp.2.2.2.2.2.1
theorem WA.ex5 {w : World} {h s l : Nat} {w1 : World} (hyp : WA w h s l w1) : ∃ v, w1.cell? ⟨w.heap.size + 1 + 1 + 1 + 1 + 1, 0, none⟩ = Option.some v := Option.isSome_iff_exists.1 hyp.2.2.2.2.2.2.1
def WB (w : World) (K h s l q : Nat) (w' : World) : Prop :=
  Below w.heap.size w w' ∧ w'.cell? ⟨w.heap.size, 0, none⟩ = some (.float .f64 h) ∧ w'.cell? ⟨w.heap.size + 1, 0, none⟩ = some (.float .f64 s) ∧ w'.cell? ⟨w.heap.size + 1 + 1, 0, none⟩ = some (.float .f64 l) ∧ (w'.cell? ⟨w.heap.size + 1 + 1 + 1, 0, none⟩).isSome = true ∧ (w'.cell? ⟨w.heap.size + 1 + 1 + 1 + 1, 0, none⟩).isSome = true ∧ (w'.cell? ⟨w.heap.size + 1 + 1 + 1 + 1 + 1, 0, none⟩).isSome = true ∧ w'.cell? ⟨K, 0, none⟩ = some (.float .f64 q) ∧ w'.frozen? ⟨w.heap.size, 0, none⟩ = false ∧ w'.frozen? ⟨w.heap.size + 1, 0, none⟩ = false ∧ w'.frozen? ⟨w.heap.size + 1 + 1, 0, none⟩ = false ∧ w'.frozen? ⟨w.heap.size + 1 + 1 + 1, 0, none⟩ = false ∧ w'.frozen? ⟨w.heap.size + 1 + 1 + 1 + 1, 0, none⟩ = false ∧ w'.frozen? ⟨w.heap.size + 1 + 1 + 1 + 1 + 1, 0, none⟩ = false ∧ w'.frozen? ⟨K, 0, none⟩ = false ∧ w.heap.size + 1 + 1 + 1 + 1 + 1 < K ∧ K < w'.heap.size
theorem WB.step {w : World} {K h s l q : Nat} {w1 w2 : World} (hyp : WB w K h s l q w1) (hb : Below w1.heap.size w1 w2) : WB w K h s l q w2 := by
  obtain ⟨x0, x1, x2, x3, x4, x5, x6, x7, x8, x9, x10, x11, x12, x13, x14, x15, x16⟩ := hyp
  have hc : ∀ b o, b < w1.heap.size → w2.cell? ⟨b, o, none⟩ = w1.cell? ⟨b, o, none⟩ := fun b o h => hb.cell (p := ⟨b, o, none⟩) h
  have hf : ∀ b o, b < w1.heap.size → w2.frozen? ⟨b, o, none⟩ = w1.frozen? ⟨b, o, none⟩ := fun b o h => hb.frozen (p := ⟨b, o, none⟩) h
  have hz := hb.size
  have hB := x0.size
  exact ⟨x0.trans (hb.mono (by omega)), by rw [hc _ _ (by omega)]; exact x1, by rw [hc _ _ (by omega)]; exact x2, by rw [hc _ _ (by omega)]; exact x3, by rw [hc _ _ (by omega)]; exact x4, by rw [hc _ _ (by omega)]; exact x5, by rw [hc _ _ (by omega)]; exact x6, by rw [hc _ _ (by omega)]; exact x7, by rw [hf _ _ (by omega)]; exact x8, by rw [hf _ _ (by omega)]; exact x9, by rw [hf _ _ (by omega)]; exact x10, by rw [hf _ _ (by omega)]; exact x11, by rw [hf _ _ (by omega)]; exact x12, by rw [hf _ _ (by omega)]; exact x13, by rw [hf _ _ (by omega)]; exact x14, x15, by omega⟩
theorem WB.put0 {w : World} {K h s l q : Nat} {w1 : World} (hyp : WB w K h s l q w1) (v : Nat) : WB w K v s l q (w1.setCell ⟨w.heap.size, 0, none⟩ (.float .f64 v)) := by
  obtain ⟨x0, x1, x2, x3, x4, x5, x6, x7, x8, x9, x10, x11, x12, x13, x14, x15, x16⟩ := hyp
  have hB := x0.size
  obtain ⟨u3, s3⟩ := Option.isSome_iff_exists.1 x4
  obtain ⟨u4, s4⟩ := Option.isSome_iff_exists.1 x5
  obtain ⟨u5, s5⟩ := Option.isSome_iff_exists.1 x6
  have e6 : ¬ w.heap.size = K := by omega
  have d6 : ¬ K = w.heap.size := by omega
  refine ⟨x0.setCell (by show w.heap.size ≤ w.heap.size; omega) _, ?_, ?_, ?_, ?_, ?_, ?_, ?_, ?_, ?_, ?_, ?_, ?_, ?_, ?_, x15, by simpa using x16⟩
  all_goals (set_option linter.unusedSimpArgs false in simp [go_sem, x1, x2, x3, s3, s4, s5, x7, x8, x9, x10, x11, x12, x13, x14, e6, d6])
theorem WB.put1 {w : World} {K h s l q : Nat} {w1 : World} (hyp : WB w K h s l q w1) (v : Nat) : WB w K h v l q (w1.setCell ⟨w.heap.size + 1, 0, none⟩ (.float .f64 v)) := by
  obtain ⟨x0, x1, x2, x3, x4, x5, x6, x7, x8, x9, x10, x11, x12, x13, x14, x15, x16⟩ := hyp
  have hB := x0.size
  obtain ⟨u3, s3⟩ := Option.isSome_iff_exists.1 x4
  obtain ⟨u4, s4⟩ := Option.isSome_iff_exists.1 x5
  obtain ⟨u5, s5⟩ := Option.isSome_iff_exists.1 x6
  have e6 : ¬ w.heap.size + 1 = K := by omega
  have d6 : ¬ K = w.heap.size + 1 := by omega
  refine ⟨x0.setCell (by show w.heap.size ≤ w.heap.size + 1; omega) _, ?_, ?_, ?_, ?_, ?_, ?_, ?_, ?_, ?_, ?_, ?_, ?_, ?_, ?_, x15, by simpa using x16⟩
  all_goals (set_option linter.unusedSimpArgs false in simp [go_sem, x1, x2, x3, s3, s4, s5, x7, x8, x9, x10, x11, x12, x13, x14, e6, d6])
theorem WB.put2 {w : World} {K h s l q : Nat} {w1 : World} (hyp : WB w K h s l q w1) (v : Nat) : WB w K h s v q (w1.setCell ⟨w.heap.size + 1 + 1, 0, none⟩ (.float .f64 v)) := by
  obtain ⟨x0, x1, x2, x3, x4, x5, x6, x7, x8, x9, x10, x11, x12, x13, x14, x15, x16⟩ := hyp
  have hB := x0.size
  obtain ⟨u3, s3⟩ := Option.isSome_iff_exists.1 x4
  obtain ⟨u4, s4⟩ := Option.isSome_iff_exists.1 x5
  obtain ⟨u5, s5⟩ := Option.isSome_iff_exists.1 x6
  have e6 : ¬ w.heap.size + 1 + 1 = K := by omega
  have d6 : ¬ K = w.heap.size + 1 + 1 := by omega
  refine ⟨x0.setCell (by show w.heap.size ≤ w.heap.size + 1 + 1; omega) _, ?_, ?_, ?_, ?_, ?_, ?_, ?_, ?_, ?_, ?_, ?_, ?_, ?_, ?_, x15, by simpa using x16⟩
  all_goals (set_option linter.unusedSimpArgs false in simp [go_sem, x1, x2, x3, s3, s4, s5, x7, x8, x9, x10, x11, x12, x13, x14, e6, d6])
theorem WB.put3 {w : World} {K h s l q : Nat} {w1 : World} (hyp : WB w K h s l q w1) (v : Value) : WB w K h s l q (w1.setCell ⟨w.heap.size + 1 + 1 + 1, 0, none⟩ v) := by
  obtain ⟨x0, x1, x2, x3, x4, x5, x6, x7, x8, x9, x10, x11, x12, x13, x14, x15, x16⟩ := hyp
  have hB := x0.size
  obtain ⟨u3, s3⟩ := Option.isSome_iff_exists.1 x4
  obtain ⟨u4, s4⟩ := Option.isSome_iff_exists.1 x5
  obtain ⟨u5, s5⟩ := Option.isSome_iff_exists.1 x6
  have e6 : ¬ w.heap.size + 1 + 1 + 1 = K := by omega
  have d6 : ¬ K = w.heap.size + 1 + 1 + 1 := by omega
  refine ⟨x0.setCell (by show w.heap.size ≤ w.heap.size + 1 + 1 + 1; omega) _, ?_, ?_, ?_, ?_, ?_, ?_, ?_, ?_, ?_, ?_, ?_, ?_, ?_, ?_, x15, by simpa using x16⟩
  all_goals (set_option linter.unusedSimpArgs false in simp [go_sem, x1, x2, x3, s3, s4, s5, x7, x8, x9, x10, x11, x12, x13, x14, e6, d6])
theorem WB.put4 {w : World} {K h s l q : Nat} {w1 : World} (hyp : WB w K h s l q w1) (v : Value) : WB w K h s l q (w1.setCell ⟨w.heap.size + 1 + 1 + 1 + 1, 0, none⟩ v) := by
  obtain ⟨x0, x1, x2, x3, x4, x5, x6, x7, x8, x9, x10, x11, x12, x13, x14, x15, x16⟩ := hyp
  have hB := x0.size
  obtain ⟨u3, s3⟩ := Option.isSome_iff_exists.1 x4
  obtain ⟨u4, s4⟩ := Option.isSome_iff_exists.1 x5
  obtain ⟨u5, s5⟩ := Option.isSome_iff_exists.1 x6
  have e6 : ¬ w.heap.size + 1 + 1 + 1 + 1 = K := by omega
  have d6 : ¬ K = w.heap.size + 1 + 1 + 1 + 1 := by omega
  refine ⟨x0.setCell (by show w.heap.size ≤ w.heap.size + 1 + 1 + 1 + 1; omega) _, ?_, ?_, ?_, ?_, ?_, ?_, ?_, ?_, ?_, ?_, ?_, ?_, ?_, ?_, x15, by simpa using x16⟩
  all_goals (set_option linter.unusedSimpArgs false in simp [go_sem, x1, x2, x3, s3, s4, s5, x7, x8, x9, x10, x11, x12, x13, x14, e6, d6])
theorem WB.put5 {w : World} {K h s l q : Nat} {w1 : World} (hyp : WB w K h s l q w1) (v : Value) : WB w K h s l q (w1.setCell ⟨w.heap.size + 1 + 1 + 1 + 1 + 1, 0, none⟩ v) := by
  obtain ⟨x0, x1, x2, x3, x4, x5, x6, x7, x8, x9, x10, x11, x12, x13, x14, x15, x16⟩ := hyp
  have hB := x0.size
  obtain ⟨u3, s3⟩ := Option.isSome_iff_exists.1 x4
  obtain ⟨u4, s4⟩ := Option.isSome_iff_exists.1 x5
  obtain ⟨u5, s5⟩ := Option.isSome_iff_exists.1 x6
  have e6 : ¬ w.heap.size + 1 + 1 + 1 + 1 + 1 = K := by omega
  have d6 : ¬ K = w.heap.size + 1 + 1 + 1 + 1 + 1 := by omega
  refine ⟨x0.setCell (by show w.heap.size ≤ w.heap.size + 1 + 1 + 1 + 1 + 1; omega) _, ?_, ?_, ?_, ?_, ?_, ?_, ?_, ?_, ?_, ?_, ?_, ?_, ?_, ?_, x15, by simpa using x16⟩
  all_goals (set_option linter.unusedSimpArgs false in simp [go_sem, x1, x2, x3, s3, s4, s5, x7, x8, x9, x10, x11, x12, x13, x14, e6, d6])
theorem WB.put6 {w : World} {K h s l q : Nat} {w1 : World} (hyp : WB w K h s l q w1) (v : Nat) : WB w K h s l v (w1.setCell ⟨K, 0, none⟩ (.float .f64 v)) := by
  obtain ⟨x0, x1, x2, x3, x4, x5, x6, x7, x8, x9, x10, x11, x12, x13, x14, x15, x16⟩ := hyp
  have hB := x0.size
  obtain ⟨u3, s3⟩ := Option.isSome_iff_exists.1 x4
  obtain ⟨u4, s4⟩ := Option.isSome_iff_exists.1 x5
  obtain ⟨u5, s5⟩ := Option.isSome_iff_exists.1 x6
  have e0 : ¬ K = w.heap.size := by omega
  have d0 : ¬ w.heap.size = K := by omega
  have e1 : ¬ K = w.heap.size + 1 := by omega
  have d1 : ¬ w.heap.size + 1 = K := by omega
  have e2 : ¬ K = w.heap.size + 1 + 1 := by omega
  have d2 : ¬ w.heap.size + 1 + 1 = K := by omega
  have e3 : ¬ K = w.heap.size + 1 + 1 + 1 := by omega
  have d3 : ¬ w.heap.size + 1 + 1 + 1 = K := by omega
  have e4 : ¬ K = w.heap.size + 1 + 1 + 1 + 1 := by omega
  have d4 : ¬ w.heap.size + 1 + 1 + 1 + 1 = K := by omega
  have e5 : ¬ K = w.heap.size + 1 + 1 + 1 + 1 + 1 := by omega
  have d5 : ¬ w.heap.size + 1 + 1 + 1 + 1 + 1 = K := by omega
  refine ⟨x0.setCell (by show w.heap.size ≤ K; omega) _, ?_, ?_, ?_, ?_, ?_, ?_, ?_, ?_, ?_, ?_, ?_, ?_, ?_, ?_, x15, by simpa using x16⟩
  all_goals (set_option linter.unusedSimpArgs false in simp [go_sem, x1, x2, x3, s3, s4, s5, x7, x8, x9, x10, x11, x12, x13, x14, e0, d0, e1, d1, e2, d2, e3, d3, e4, d4, e5, d5])
theorem WB.above {w : World} {K h s l q : Nat} {w1 : World} {M0 : Nat} (hyp : WB w K h s l q w1) (hM : K < M0) (v : Value) : WB w K h s l q (w1.setCell ⟨M0, 0, none⟩ v) := by
  obtain ⟨x0, x1, x2, x3, x4, x5, x6, x7, x8, x9, x10, x11, x12, x13, x14, x15, x16⟩ := hyp
  have hB := x0.size
  obtain ⟨u3, s3⟩ := Option.isSome_iff_exists.1 x4
  obtain ⟨u4, s4⟩ := Option.isSome_iff_exists.1 x5
  obtain ⟨u5, s5⟩ := Option.isSome_iff_exists.1 x6
  have e0 : ¬ M0 = w.heap.size := by omega
  have d0 : ¬ w.heap.size = M0 := by omega
  have e1 : ¬ M0 = w.heap.size + 1 := by omega
  have d1 : ¬ w.heap.size + 1 = M0 := by omega
  have e2 : ¬ M0 = w.heap.size + 1 + 1 := by omega
  have d2 : ¬ w.heap.size + 1 + 1 = M0 := by omega
  have e3 : ¬ M0 = w.heap.size + 1 + 1 + 1 := by omega
  have d3 : ¬ w.heap.size + 1 + 1 + 1 = M0 := by omega
  have e4 : ¬ M0 = w.heap.size + 1 + 1 + 1 + 1 := by omega
  have d4 : ¬ w.heap.size + 1 + 1 + 1 + 1 = M0 := by omega
  have e5 : ¬ M0 = w.heap.size + 1 + 1 + 1 + 1 + 1 := by omega
  have d5 : ¬ w.heap.size + 1 + 1 + 1 + 1 + 1 = M0 := by omega
  have e6 : ¬ M0 = K := by omega
  have d6 : ¬ K = M0 := by omega
  refine ⟨x0.setCell (by show w.heap.size ≤ M0; omega) _, ?_, ?_, ?_, ?_, ?_, ?_, ?_, ?_, ?_, ?_, ?_, ?_, ?_, ?_, x15, by simpa using x16⟩
  all_goals (set_option linter.unusedSimpArgs false in simp [go_sem, x1, x2, x3, s3, s4, s5, x7, x8, x9, x10, x11, x12, x13, x14, e0, d0, e1, d1, e2, d2, e3, d3, e4, d4, e5, d5, e6, d6])
theorem WB.ex3 {w : World} {K h s l q : Nat} {w1 : World} (hyp : WB w K h s l q w1) : ∃ v, w1.cell? ⟨w.heap.size + 1 + 1 + 1, 0, none⟩ = Option.some v := Option.isSome_iff_exists.1 hyp.2.2.2.2.1
theorem WB.ex4 {w : World} {K h s l q : Nat} {w1 : World} (hyp : WB w K h s l q w1) : ∃ v, w1.cell? ⟨w.heap.size + 1 + 1 + 1 + 1, 0, none⟩ = Option.some v := Option.isSome_iff_exists.1 hyp.2.2.2.2.2.1
theorem WB.ex5 {w : World} {K h s l q : Nat} {w1 : World} (hyp : WB w K h s l q w1) : ∃ v, w1.cell? ⟨w.heap.size + 1 + 1 + 1 + 1 + 1, 0, none⟩ = Option.some v := Option.isSome_iff_exists.1 hyp.2.2.2.2.2.2.1
def WE (w : World) (K h s l r g b q : Nat) (w' : World) : Prop :=
  Below w.heap.size w w' ∧ w'.cell? ⟨w.heap.size, 0, none⟩ = some (.float .f64 h) ∧ w'.cell? ⟨w.heap.size + 1, 0, none⟩ = some (.float .f64 s) ∧ w'.cell? ⟨w.heap.size + 1 + 1, 0, none⟩ = some (.float .f64 l) ∧ w'.cell? ⟨w.heap.size + 1 + 1 + 1, 0, none⟩ = some (.float .f64 r) ∧ w'.cell? ⟨w.heap.size + 1 + 1 + 1 + 1, 0, none⟩ = some (.float .f64 g) ∧ w'.cell? ⟨w.heap.size + 1 + 1 + 1 + 1 + 1, 0, none⟩ = some (.float .f64 b) ∧ w'.cell? ⟨K, 0, none⟩ = some (.float .f64 q) ∧ w'.frozen? ⟨w.heap.size, 0, none⟩ = false ∧ w'.frozen? ⟨w.heap.size + 1, 0, none⟩ = false ∧ w'.frozen? ⟨w.heap.size + 1 + 1, 0, none⟩ = false ∧ w'.frozen? ⟨w.heap.size + 1 + 1 + 1, 0, none⟩ = false ∧ w'.frozen? ⟨w.heap.size + 1 + 1 + 1 + 1, 0, none⟩ = false ∧ w'.frozen? ⟨w.heap.size + 1 + 1 + 1 + 1 + 1, 0, none⟩ = false ∧ w'.frozen? ⟨K, 0, none⟩ = false ∧ w.heap.size + 1 + 1 + 1 + 1 + 1 < K ∧ K < w'.heap.size
theorem WE.step {w : World} {K h s l r g b q : Nat} {w1 w2 : World} (hyp : WE w K h s l r g b q w1) (hb : Below w1.heap.size w1 w2) : WE w K h s l r g b q w2 := by
  obtain ⟨x0, x1, x2, x3, x4, x5, x6, x7, x8, x9, x10, x11, x12, x13, x14, x15, x16⟩ := hyp
  have hc : ∀ b o, b < w1.heap.size → w2.cell? ⟨b, o, none⟩ = w1.cell? ⟨b, o, none⟩ := fun b o h => hb.cell (p := ⟨b, o, none⟩) h
  have hf : ∀ b o, b < w1.heap.size → w2.frozen? ⟨b, o, none⟩ = w1.frozen? ⟨b, o, none⟩ := fun b o h => hb.frozen (p := ⟨b, o, none⟩) h
  have hz := hb.size
  have hB := x0.size
  exact ⟨x0.trans (hb.mono (by omega)), by rw [hc _ _ (by omega)]; exact x1, by rw [hc _ _ (by omega)]; exact x2, by rw [hc _ _ (by omega)]; exact x3, by rw [hc _ _ (by omega)]; exact x4, by rw [hc _ _ (by omega)]; exact x5, by rw [hc _ _ (by omega)]; exact x6, by rw [hc _ _ (by omega)]; exact x7, by rw [hf _ _ (by omega)]; exact x8, by rw [hf _ _ (by omega)]; exact x9, by rw [hf _ _ (by omega)]; exact x10, by rw [hf _ _ (by omega)]; exact x11, by rw [hf _ _ (by omega)]; exact x12, by rw [hf _ _ (by omega)]; exact x13, by rw [hf _ _ (by omega)]; exact x14, x15, by omega⟩
theorem WE.put0 {w : World} {K h s l r g b q : Nat} {w1 : World} (hyp : WE w K h s l r g b q w1) (v : Nat) : WE w K v s l r g b q (w1.setCell ⟨w.heap.size, 0, none⟩ (.float .f64 v)) := by
  obtain ⟨x0, x1, x2, x3, x4, x5, x6, x7, x8, x9, x10, x11, x12, x13, x14, x15, x16⟩ := hyp
  have hB := x0.size
  have e6 : ¬ w.heap.size = K := by omega
  have d6 : ¬ K = w.heap.size := by omega
  refine ⟨x0.setCell (by show w.heap.size ≤ w.heap.size; omega) _, ?_, ?_, ?_, ?_, ?_, ?_, ?_, ?_, ?_, ?_, ?_, ?_, ?_, ?_, x15, by simpa using x16⟩
  all_goals (set_option linter.unusedSimpArgs false in simp [go_sem, x1, x2, x3, x4, x5, x6, x7, x8, x9, x10, x11, x12, x13, x14, e6, d6])
theorem WE.put1 {w : World} {K h s l r g b q : Nat} {w1 : World} (hyp : WE w K h s l r g b q w1) (v : Nat) : WE w K h v l r g b q (w1.setCell ⟨w.heap.size + 1, 0, none⟩ (.float .f64 v)) := by
  obtain ⟨x0, x1, x2, x3, x4, x5, x6, x7, x8, x9, x10, x11, x12, x13, x14, x15, x16⟩ := hyp
  have hB := x0.size
  have e6 : ¬ w.heap.size + 1 = K := by omega
  have d6 : ¬ K = w.heap.size + 1 := by omega
  refine ⟨x0.setCell (by show w.heap.size ≤ w.heap.size + 1; omega) _, ?_, ?_, ?_, ?_, ?_, ?_, ?_, ?_, ?_, ?_, ?_, ?_, ?_, ?_, x15, by simpa using x16⟩
  all_goals (set_option linter.unusedSimpArgs false in simp [go_sem, x1, x2, x3, x4, x5, x6, x7, x8, x9, x10, x11, x12, x13, x14, e6, d6])
theorem WE.put2 {w : World} {K h s l r g b q : Nat} {w1 : World} (hyp : WE w K h s l r g b q w1) (v : Nat) : WE w K h s v r g b q (w1.setCell ⟨w.heap.size + 1 + 1, 0, none⟩ (.float .f64 v)) := by
  obtain ⟨x0, x1, x2, x3, x4, x5, x6, x7, x8, x9, x10, x11, x12, x13, x14, x15, x16⟩ := hyp
  have hB := x0.size
  have e6 : ¬ w.heap.size + 1 + 1 = K := by omega
  have d6 : ¬ K = w.heap.size + 1 + 1 := by omega
  refine ⟨x0.setCell (by show w.heap.size ≤ w.heap.size + 1 + 1; omega) _, ?_, ?_, ?_, ?_, ?_, ?_, ?_, ?_, ?_, ?_, ?_, ?_, ?_, ?_, x15, by simpa using x16⟩
  all_goals (set_option linter.unusedSimpArgs false in simp [go_sem, x1, x2, x3, x4, x5, x6, x7, x8, x9, x10, x11, x12, x13, x14, e6, d6])
theorem WE.put3 {w : World} {K h s l r g b q : Nat} {w1 : World} (hyp : WE w K h s l r g b q w1) (v : Nat) : WE w K h s l v g b q (w1.setCell ⟨w.heap.size + 1 + 1 + 1, 0, none⟩ (.float .f64 v)) := by
  obtain ⟨x0, x1, x2, x3, x4, x5, x6, x7, x8, x9, x10, x11, x12, x13, x14, x15, x16⟩ := hyp
  have hB := x0.size
  have e6 : ¬ w.heap.size + 1 + 1 + 1 = K := by omega
  have d6 : ¬ K = w.heap.size + 1 + 1 + 1 := by omega
  refine ⟨x0.setCell (by show w.heap.size ≤ w.heap.size + 1 + 1 + 1; omega) _, ?_, ?_, ?_, ?_, ?_, ?_, ?_, ?_, ?_, ?_, ?_, ?_, ?_, ?_, x15, by simpa using x16⟩
  all_goals (set_option linter.unusedSimpArgs false in simp [go_sem, x1, x2, x3, x4, x5, x6, x7, x8, x9, x10, x11, x12, x13, x14, e6, d6])
theorem WE.put4 {w : World} {K h s l r g b q : Nat} {w1 : World} (hyp : WE w K h s l r g b q w1) (v : Nat) : WE w K h s l r v b q (w1.setCell ⟨w.heap.size + 1 + 1 + 1 + 1, 0, none⟩ (.float .f64 v)) := by
  obtain ⟨x0, x1, x2, x3, x4, x5, x6, x7, x8, x9, x10, x11, x12, x13, x14, x15, x16⟩ := hyp
  have hB := x0.size
  have e6 : ¬ w.heap.size + 1 + 1 + 1 + 1 = K := by omega
  have d6 : ¬ K = w.heap.size + 1 + 1 + 1 + 1 := by omega
  refine ⟨x0.setCell (by show w.heap.size ≤ w.heap.size + 1 + 1 + 1 + 1; omega) _, ?_, ?_, ?_, ?_, ?_, ?_, ?_, ?_, ?_, ?_, ?_, ?_, ?_, ?_, x15, by simpa using x16⟩
  all_goals (set_option linter.unusedSimpArgs false in simp [go_sem, x1, x2, x3, x4, x5, x6, x7, x8, x9, x10, x11, x12, x13, x14, e6, d6])
theorem WE.put5 {w : World} {K h s l r g b q : Nat} {w1 : World} (hyp : WE w K h s l r g b q w1) (v : Nat) : WE w K h s l r g v q (w1.setCell ⟨w.heap.size + 1 + 1 + 1 + 1 + 1, 0, none⟩ (.float .f64 v)) := by
  obtain ⟨x0, x1, x2, x3, x4, x5, x6, x7, x8, x9, x10, x11, x12, x13, x14, x15, x16⟩ := hyp
  have hB := x0.size
  have e6 : ¬ w.heap.size + 1 + 1 + 1 + 1 + 1 = K := by omega
  have d6 : ¬ K = w.heap.size + 1 + 1 + 1 + 1 + 1 := by omega
  refine ⟨x0.setCell (by show w.heap.size ≤ w.heap.size + 1 + 1 + 1 + 1 + 1; omega) _, ?_, ?_, ?_, ?_, ?_, ?_, ?_, ?_, ?_, ?_, ?_, ?_, ?_, ?_, x15, by simpa using x16⟩
  all_goals (set_option linter.unusedSimpArgs false in simp [go_sem, x1, x2, x3, x4, x5, x6, x7, x8, x9, x10, x11, x12, x13, x14, e6, d6])
theorem WE.put6 {w : World} {K h s l r g b q : Nat} {w1 : World} (hyp : WE w K h s l r g b q w1) (v : Nat) : WE w K h s l r g b v (w1.setCell ⟨K, 0, none⟩ (.float .f64 v)) := by
  obtain ⟨x0, x1, x2, x3, x4, x5, x6, x7, x8, x9, x10, x11, x12, x13, x14, x15, x16⟩ := hyp
  have hB := x0.size
  have e0 : ¬ K = w.heap.size := by omega
  have d0 : ¬ w.heap.size = K := by omega
  have e1 : ¬ K = w.heap.size + 1 := by omega
  have d1 : ¬ w.heap.size + 1 = K := by omega
  have e2 : ¬ K = w.heap.size + 1 + 1 := by omega
  have d2 : ¬ w.heap.size + 1 + 1 = K := by omega
  have e3 : ¬ K = w.heap.size + 1 + 1 + 1 := by omega
  have d3 : ¬ w.heap.size + 1 + 1 + 1 = K := by omega
  have e4 : ¬ K = w.heap.size + 1 + 1 + 1 + 1 := by omega
  have d4 : ¬ w.heap.size + 1 + 1 + 1 + 1 = K := by omega
  have e5 : ¬ K = w.heap.size + 1 + 1 + 1 + 1 + 1 := by omega
  have d5 : ¬ w.heap.size + 1 + 1 + 1 + 1 + 1 = K := by omega
  refine ⟨x0.setCell (by show w.heap.size ≤ K; omega) _, ?_, ?_, ?_, ?_, ?_, ?_, ?_, ?_, ?_, ?_, ?_, ?_, ?_, ?_, x15, by simpa using x16⟩
  all_goals (set_option linter.unusedSimpArgs false in simp [go_sem, x1, x2, x3, x4, x5, x6, x7, x8, x9, x10, x11, x12, x13, x14, e0, d0, e1, d1, e2, d2, e3, d3, e4, d4, e5, d5])
theorem WE.above {w : World} {K h s l r g b q : Nat} {w1 : World} {M0 : Nat} (hyp : WE w K h s l r g b q w1) (hM : K < M0) (v : Value) : WE w K h s l r g b q (w1.setCell ⟨M0, 0, none⟩ v) := by
  obtain ⟨x0, x1, x2, x3, x4, x5, x6, x7, x8, x9, x10, x11, x12, x13, x14, x15, x16⟩ := hyp
  have hB := x0.size
  have e0 : ¬ M0 = w.heap.size := by omega
  have d0 : ¬ w.heap.size = M0 := by omega
  have e1 : ¬ M0 = w.heap.size + 1 := by omega
  have d1 : ¬ w.heap.size + 1 = M0 := by omega
  have e2 : ¬ M0 = w.heap.size + 1 + 1 := by omega
  have d2 : ¬ w.heap.size + 1 + 1 = M0 := by omega
  have e3 : ¬ M0 = w.heap.size + 1 + 1 + 1 := by omega
  have d3 : ¬ w.heap.size + 1 + 1 + 1 = M0 := by omega
  have e4 : ¬ M0 = w.heap.size + 1 + 1 + 1 + 1 := by omega
  have d4 : ¬ w.heap.size + 1 + 1 + 1 + 1 = M0 := by omega
  have e5 : ¬ M0 = w.heap.size + 1 + 1 + 1 + 1 + 1 := by omega
  have d5 : ¬ w.heap.size + 1 + 1 + 1 + 1 + 1 = M0 := by omega
  have e6 : ¬ M0 = K := by omega
  have d6 : ¬ K = M0 := by omega
  refine ⟨x0.setCell (by show w.heap.size ≤ M0; omega) _, ?_, ?_, ?_, ?_, ?_, ?_, ?_, ?_, ?_, ?_, ?_, ?_, ?_, ?_, x15, by simpa using x16⟩
  all_goals (set_option linter.unusedSimpArgs false in simp [go_sem, x1, x2, x3, x4, x5, x6, x7, x8, x9, x10, x11, x12, x13, x14, e0, d0, e1, d1, e2, d2, e3, d3, e4, d4, e5, d5, e6, d6])
theorem WB.of {w : World} {h s l K q : Nat} {w1 : World} (hyp : WA w h s l w1) (h1 : w1.cell? ⟨K, 0, none⟩ = some (.float .f64 q)) (h2 : w1.frozen? ⟨K, 0, none⟩ = false) (h3 : w.heap.size + 1 + 1 + 1 + 1 + 1 < K) (h4 : K < w1.heap.size) : WB w K h s l q w1 := by
  obtain ⟨x0, x1, x2, x3, x4, x5, x6, x7, x8, x9, x10, x11, x12, x13⟩ := hyp
  exact ⟨x0, x1, x2, x3, x4, x5, x6, h1, x7, x8, x9, x10, x11, x12, h2, h3, h4⟩
theorem WB.new {w : World} {h s l : Nat} {w1 : World} (hyp : WA w h s l w1) (t q : Nat) : WB w w1.heap.size h s l q (w1.alloc (.cells #[.float .f64 q] t)) :=
  WB.of (hyp.step ((Below.refl _ _).alloc (Nat.le_refl _) _)) (by simp [go_sem]) (by simp [go_sem]) (by have := hyp.2.2.2.2.2.2.2.2.2.2.2.2.2; exact this) (by simp)
theorem WA.alloc {w : World} {h s l : Nat} {w1 : World} {o : Obj} (hyp : WA w h s l w1) : WA w h s l (w1.alloc o) := hyp.step ((Below.refl _ _).alloc (Nat.le_refl _) _)

theorem WA.start (w : World) (h s l : Nat) : WA w h s l ((((((w.alloc (.cells #[.float .f64 h] 43)).alloc (.cells #[.float .f64 s] 43)).alloc (.cells #[.float .f64 l] 43)).alloc (.cells #[.float .f64 0] 43)).alloc (.cells #[.float .f64 0] 43)).alloc (.cells #[.float .f64 0] 43)) := by
  refine ⟨((((((Below.refl _ w).alloc (Nat.le_refl _) _).alloc (by simp) _).alloc (by simp; omega) _).alloc (by simp; omega) _).alloc (by simp; omega) _).alloc (by simp; omega) _, ?_⟩
  simp [go_sem]
/-- The three answers are laid, in whatever order. -/
theorem WE.put {w : World} {K h s l q r g b : Nat} {w1 w2 : World} (hyp : WB w K h s l q w1)
    (hB : Below w.heap.size w w2) (hsz : w2.heap.size = w1.heap.size)
    (hc : ∀ a, a ≠ (⟨w.heap.size + 1 + 1 + 1, 0, none⟩ : Addr) → a ≠ ⟨w.heap.size + 1 + 1 + 1 + 1, 0, none⟩ → a ≠ ⟨w.heap.size + 1 + 1 + 1 + 1 + 1, 0, none⟩ → w2.cell? a = w1.cell? a)
    (hf : ∀ a, w2.frozen? a = w1.frozen? a)
    (c3 : w2.cell? ⟨w.heap.size + 1 + 1 + 1, 0, none⟩ = some (.float .f64 r)) (c4 : w2.cell? ⟨w.heap.size + 1 + 1 + 1 + 1, 0, none⟩ = some (.float .f64 g)) (c5 : w2.cell? ⟨w.heap.size + 1 + 1 + 1 + 1 + 1, 0, none⟩ = some (.float .f64 b)) : WE w K h s l r g b q w2 := by
  obtain ⟨x0, x1, x2, x3, x4, x5, x6, x7, x8, x9, x10, x11, x12, x13, x14, x15, x16⟩ := hyp
  refine ⟨hB, ?_, ?_, ?_, c3, c4, c5, ?_, by rw [hf]; exact x8, by rw [hf]; exact x9, by rw [hf]; exact x10, by rw [hf]; exact x11, by rw [hf]; exact x12, by rw [hf]; exact x13, by rw [hf]; exact x14, x15, by rw [hsz]; exact x16⟩
  · rw [hc _ (by simp) (by simp) (by simp)]; exact x1
  · rw [hc _ (by simp) (by simp) (by simp)]; exact x2
  · rw [hc _ (by simp) (by simp) (by simp)]; exact x3
  · rw [hc _ (by intro e; injection e; omega) (by intro e; injection e; omega) (by intro e; injection e; omega)]; exact x7
end Go.Proofs.Ytcaiehnihgcegaa.F64
