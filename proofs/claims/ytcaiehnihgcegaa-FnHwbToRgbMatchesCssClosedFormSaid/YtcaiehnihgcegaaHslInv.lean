/- Invariants of hslToRgb's walk. Written by inv.py. -/
import Derived.Test.YtcaiehnihgcegaaHue
namespace Go.Proofs.Ytcaiehnihgcegaa.F64
open Go.RowKit
def HA (w : World) (h s l : Nat) (w' : World) : Prop :=
  Below w.heap.size w w' ∧ w'.cell? ⟨w.heap.size, 0, none⟩ = some (.float .f64 h) ∧ w'.cell? ⟨w.heap.size + 1, 0, none⟩ = some (.float .f64 s) ∧ w'.cell? ⟨w.heap.size + 1 + 1, 0, none⟩ = some (.float .f64 l) ∧ (w'.cell? ⟨w.heap.size + 1 + 1 + 1, 0, none⟩).isSome = true ∧ (w'.cell? ⟨w.heap.size + 1 + 1 + 1 + 1, 0, none⟩).isSome = true ∧ (w'.cell? ⟨w.heap.size + 1 + 1 + 1 + 1 + 1, 0, none⟩).isSome = true ∧ w'.frozen? ⟨w.heap.size, 0, none⟩ = false ∧ w'.frozen? ⟨w.heap.size + 1, 0, none⟩ = false ∧ w'.frozen? ⟨w.heap.size + 1 + 1, 0, none⟩ = false ∧ w'.frozen? ⟨w.heap.size + 1 + 1 + 1, 0, none⟩ = false ∧ w'.frozen? ⟨w.heap.size + 1 + 1 + 1 + 1, 0, none⟩ = false ∧ w'.frozen? ⟨w.heap.size + 1 + 1 + 1 + 1 + 1, 0, none⟩ = false ∧ w.heap.size + 1 + 1 + 1 + 1 + 1 < w'.heap.size
theorem HA.step {w : World} {h s l : Nat} {w1 w2 : World} (hyp : HA w h s l w1) (hb : Below w1.heap.size w1 w2) : HA w h s l w2 := by
  obtain ⟨x0, x1, x2, x3, x4, x5, x6, x7, x8, x9, x10, x11, x12, x13⟩ := hyp
  have hc : ∀ b o, b < w1.heap.size → w2.cell? ⟨b, o, none⟩ = w1.cell? ⟨b, o, none⟩ := fun b o h => hb.cell (p := ⟨b, o, none⟩) h
  have hf : ∀ b o, b < w1.heap.size → w2.frozen? ⟨b, o, none⟩ = w1.frozen? ⟨b, o, none⟩ := fun b o h => hb.frozen (p := ⟨b, o, none⟩) h
  have hz := hb.size
  have hB := x0.size
  exact ⟨x0.trans (hb.mono (by omega)), by rw [hc _ _ (by omega)]; exact x1, by rw [hc _ _ (by omega)]; exact x2, by rw [hc _ _ (by omega)]; exact x3, by rw [hc _ _ (by omega)]; exact x4, by rw [hc _ _ (by omega)]; exact x5, by rw [hc _ _ (by omega)]; exact x6, by rw [hf _ _ (by omega)]; exact x7, by rw [hf _ _ (by omega)]; exact x8, by rw [hf _ _ (by omega)]; exact x9, by rw [hf _ _ (by omega)]; exact x10, by rw [hf _ _ (by omega)]; exact x11, by rw [hf _ _ (by omega)]; exact x12, by omega⟩
theorem HA.put0 {w : World} {h s l : Nat} {w1 : World} (hyp : HA w h s l w1) (v : Nat) : HA w v s l (w1.setCell ⟨w.heap.size, 0, none⟩ (.float .f64 v)) := by
  obtain ⟨x0, x1, x2, x3, x4, x5, x6, x7, x8, x9, x10, x11, x12, x13⟩ := hyp
  have hB := x0.size
  obtain ⟨u3, s3⟩ := Option.isSome_iff_exists.1 x4
  obtain ⟨u4, s4⟩ := Option.isSome_iff_exists.1 x5
  obtain ⟨u5, s5⟩ := Option.isSome_iff_exists.1 x6
  refine ⟨x0.setCell (by show w.heap.size ≤ w.heap.size; omega) _, ?_, ?_, ?_, ?_, ?_, ?_, ?_, ?_, ?_, ?_, ?_, ?_, by simpa using x13⟩
  all_goals (set_option linter.unusedSimpArgs false in simp [go_sem, x1, x2, x3, s3, s4, s5, x7, x8, x9, x10, x11, x12])
theorem HA.put1 {w : World} {h s l : Nat} {w1 : World} (hyp : HA w h s l w1) (v : Nat) : HA w h v l (w1.setCell ⟨w.heap.size + 1, 0, none⟩ (.float .f64 v)) := by
  obtain ⟨x0, x1, x2, x3, x4, x5, x6, x7, x8, x9, x10, x11, x12, x13⟩ := hyp
  have hB := x0.size
  obtain ⟨u3, s3⟩ := Option.isSome_iff_exists.1 x4
  obtain ⟨u4, s4⟩ := Option.isSome_iff_exists.1 x5
  obtain ⟨u5, s5⟩ := Option.isSome_iff_exists.1 x6
  refine ⟨x0.setCell (by show w.heap.size ≤ w.heap.size + 1; omega) _, ?_, ?_, ?_, ?_, ?_, ?_, ?_, ?_, ?_, ?_, ?_, ?_, by simpa using x13⟩
  all_goals (set_option linter.unusedSimpArgs false in simp [go_sem, x1, x2, x3, s3, s4, s5, x7, x8, x9, x10, x11, x12])
theorem HA.put2 {w : World} {h s l : Nat} {w1 : World} (hyp : HA w h s l w1) (v : Nat) : HA w h s v (w1.setCell ⟨w.heap.size + 1 + 1, 0, none⟩ (.float .f64 v)) := by
  obtain ⟨x0, x1, x2, x3, x4, x5, x6, x7, x8, x9, x10, x11, x12, x13⟩ := hyp
  have hB := x0.size
  obtain ⟨u3, s3⟩ := Option.isSome_iff_exists.1 x4
  obtain ⟨u4, s4⟩ := Option.isSome_iff_exists.1 x5
  obtain ⟨u5, s5⟩ := Option.isSome_iff_exists.1 x6
  refine ⟨x0.setCell (by show w.heap.size ≤ w.heap.size + 1 + 1; omega) _, ?_, ?_, ?_, ?_, ?_, ?_, ?_, ?_, ?_, ?_, ?_, ?_, by simpa using x13⟩
  all_goals (set_option linter.unusedSimpArgs false in simp [go_sem, x1, x2, x3, s3, s4, s5, x7, x8, x9, x10, x11, x12])
theorem HA.put3 {w : World} {h s l : Nat} {w1 : World} (hyp : HA w h s l w1) (v : Value) : HA w h s l (w1.setCell ⟨w.heap.size + 1 + 1 + 1, 0, none⟩ v) := by
  obtain ⟨x0, x1, x2, x3, x4, x5, x6, x7, x8, x9, x10, x11, x12, x13⟩ := hyp
  have hB := x0.size
  obtain ⟨u3, s3⟩ := Option.isSome_iff_exists.1 x4
  obtain ⟨u4, s4⟩ := Option.isSome_iff_exists.1 x5
  obtain ⟨u5, s5⟩ := Option.isSome_iff_exists.1 x6
  refine ⟨x0.setCell (by show w.heap.size ≤ w.heap.size + 1 + 1 + 1; omega) _, ?_, ?_, ?_, ?_, ?_, ?_, ?_, ?_, ?_, ?_, ?_, ?_, by simpa using x13⟩
  all_goals (set_option linter.unusedSimpArgs false in simp [go_sem, x1, x2, x3, s3, s4, s5, x7, x8, x9, x10, x11, x12])
theorem HA.put4 {w : World} {h s l : Nat} {w1 : World} (hyp : HA w h s l w1) (v : Value) : HA w h s l (w1.setCell ⟨w.heap.size + 1 + 1 + 1 + 1, 0, none⟩ v) := by
  obtain ⟨x0, x1, x2, x3, x4, x5, x6, x7, x8, x9, x10, x11, x12, x13⟩ := hyp
  have hB := x0.size
  obtain ⟨u3, s3⟩ := Option.isSome_iff_exists.1 x4
  obtain ⟨u4, s4⟩ := Option.isSome_iff_exists.1 x5
  obtain ⟨u5, s5⟩ := Option.isSome_iff_exists.1 x6
  refine ⟨x0.setCell (by show w.heap.size ≤ w.heap.size + 1 + 1 + 1 + 1; omega) _, ?_, ?_, ?_, ?_, ?_, ?_, ?_, ?_, ?_, ?_, ?_, ?_, by simpa using x13⟩
  all_goals (set_option linter.unusedSimpArgs false in simp [go_sem, x1, x2, x3, s3, s4, s5, x7, x8, x9, x10, x11, x12])
theorem HA.put5 {w : World} {h s l : Nat} {w1 : World} (hyp : HA w h s l w1) (v : Value) : HA w h s l (w1.setCell ⟨w.heap.size + 1 + 1 + 1 + 1 + 1, 0, none⟩ v) := by
  obtain ⟨x0, x1, x2, x3, x4, x5, x6, x7, x8, x9, x10, x11, x12, x13⟩ := hyp
  have hB := x0.size
  obtain ⟨u3, s3⟩ := Option.isSome_iff_exists.1 x4
  obtain ⟨u4, s4⟩ := Option.isSome_iff_exists.1 x5
  obtain ⟨u5, s5⟩ := Option.isSome_iff_exists.1 x6
  refine ⟨x0.setCell (by show w.heap.size ≤ w.heap.size + 1 + 1 + 1 + 1 + 1; omega) _, ?_, ?_, ?_, ?_, ?_, ?_, ?_, ?_, ?_, ?_, ?_, ?_, by simpa using x13⟩
  all_goals (set_option linter.unusedSimpArgs false in simp [go_sem, x1, x2, x3, s3, s4, s5, x7, x8, x9, x10, x11, x12])
theorem HA.above {w : World} {h s l : Nat} {w1 : World} {M0 : Nat} (hyp : HA w h s l w1) (hM : w.heap.size + 1 + 1 + 1 + 1 + 1 < M0) (v : Value) : HA w h s l (w1.setCell ⟨M0, 0, none⟩ v) := by
  obtain ⟨x0, x1, x2, x3, x4, x5, x6, x7, x8, x9, x10, x11, x12, x13⟩ := hyp
  have hB := x0.size
  obtain ⟨u3, s3⟩ := Option.isSome_iff_exists.1 x4
  obtain ⟨u4, s4⟩ := Option.isSome_iff_exists.1 x5
  obtain ⟨u5, s5⟩ := Option.isSome_iff_exists.1 x6
  have e0 : ¬ M0 = w.heap.size := by omega
  have d0 : ¬ w.heap.size = M0 := by omega
  have e1 : ¬ M0 = w.heap.size + 1 := by omega
  have d1 : ¬ w.heap.size + 1 = M0 := by omega
  have e2 : ¬ M0 = w.heap.size + 1 + 1 := by omega
  have d2 : ¬ w.heap.size + 1 + 1 = M0 := by omega
  have e3 : ¬ M0 = w.heap.size + 1 + 1 + 1 := by omega
  have d3 : ¬ w.heap.size + 1 + 1 + 1 = M0 := by omega
  have e4 : ¬ M0 = w.heap.size + 1 + 1 + 1 + 1 := by omega
  have d4 : ¬ w.heap.size + 1 + 1 + 1 + 1 = M0 := by omega
  have e5 : ¬ M0 = w.heap.size + 1 + 1 + 1 + 1 + 1 := by omega
  have d5 : ¬ w.heap.size + 1 + 1 + 1 + 1 + 1 = M0 := by omega
  refine ⟨x0.setCell (by show w.heap.size ≤ M0; omega) _, ?_, ?_, ?_, ?_, ?_, ?_, ?_, ?_, ?_, ?_, ?_, ?_, by simpa using x13⟩
  all_goals (set_option linter.unusedSimpArgs false in simp [go_sem, x1, x2, x3, s3, s4, s5, x7, x8, x9, x10, x11, x12, e0, d0, e1, d1, e2, d2, e3, d3, e4, d4, e5, d5])
theorem HA.ex3 {w : World} {h s l : Nat} {w1 : World} (hyp : HA w h s l w1) : ∃ v, w1.cell? ⟨w.heap.size + 1 + 1 + 1, 0, none⟩ = Option.some v := Option.isSome_iff_exists.1 hyp.2.2.2.2.1
theorem HA.ex4 {w : World} {h s l : Nat} {w1 : World} (hyp : HA w h s l w1) : ∃ v, w1.cell? ⟨w.heap.size + 1 + 1 + 1 + 1, 0, none⟩ = Option.some v := Option.isSome_iff_exists.1 hyp.2.2.2.2.2.1
theorem HA.ex5 {w : World} {h s l : Nat} {w1 : World} (hyp : HA w h s l w1) : ∃ v, w1.cell? ⟨w.heap.size + 1 + 1 + 1 + 1 + 1, 0, none⟩ = Option.some v := Option.isSome_iff_exists.1 hyp.2.2.2.2.2.2.1
def HB (w : World) (K h s l : Nat) (w' : World) : Prop :=
  Below w.heap.size w w' ∧ w'.cell? ⟨w.heap.size, 0, none⟩ = some (.float .f64 h) ∧ w'.cell? ⟨w.heap.size + 1, 0, none⟩ = some (.float .f64 s) ∧ w'.cell? ⟨w.heap.size + 1 + 1, 0, none⟩ = some (.float .f64 l) ∧ (w'.cell? ⟨w.heap.size + 1 + 1 + 1, 0, none⟩).isSome = true ∧ (w'.cell? ⟨w.heap.size + 1 + 1 + 1 + 1, 0, none⟩).isSome = true ∧ (w'.cell? ⟨w.heap.size + 1 + 1 + 1 + 1 + 1, 0, none⟩).isSome = true ∧ (w'.cell? ⟨K, 0, none⟩).isSome = true ∧ w'.frozen? ⟨w.heap.size, 0, none⟩ = false ∧ w'.frozen? ⟨w.heap.size + 1, 0, none⟩ = false ∧ w'.frozen? ⟨w.heap.size + 1 + 1, 0, none⟩ = false ∧ w'.frozen? ⟨w.heap.size + 1 + 1 + 1, 0, none⟩ = false ∧ w'.frozen? ⟨w.heap.size + 1 + 1 + 1 + 1, 0, none⟩ = false ∧ w'.frozen? ⟨w.heap.size + 1 + 1 + 1 + 1 + 1, 0, none⟩ = false ∧ w'.frozen? ⟨K, 0, none⟩ = false ∧ w.heap.size + 1 + 1 + 1 + 1 + 1 < K ∧ K < w'.heap.size
theorem HB.step {w : World} {K h s l : Nat} {w1 w2 : World} (hyp : HB w K h s l w1) (hb : Below w1.heap.size w1 w2) : HB w K h s l w2 := by
  obtain ⟨x0, x1, x2, x3, x4, x5, x6, x7, x8, x9, x10, x11, x12, x13, x14, x15, x16⟩ := hyp
  have hc : ∀ b o, b < w1.heap.size → w2.cell? ⟨b, o, none⟩ = w1.cell? ⟨b, o, none⟩ := fun b o h => hb.cell (p := ⟨b, o, none⟩) h
  have hf : ∀ b o, b < w1.heap.size → w2.frozen? ⟨b, o, none⟩ = w1.frozen? ⟨b, o, none⟩ := fun b o h => hb.frozen (p := ⟨b, o, none⟩) h
  have hz := hb.size
  have hB := x0.size
  exact ⟨x0.trans (hb.mono (by omega)), by rw [hc _ _ (by omega)]; exact x1, by rw [hc _ _ (by omega)]; exact x2, by rw [hc _ _ (by omega)]; exact x3, by rw [hc _ _ (by omega)]; exact x4, by rw [hc _ _ (by omega)]; exact x5, by rw [hc _ _ (by omega)]; exact x6, by rw [hc _ _ (by omega)]; exact x7, by rw [hf _ _ (by omega)]; exact x8, by rw [hf _ _ (by omega)]; exact x9, by rw [hf _ _ (by omega)]; exact x10, by rw [hf _ _ (by omega)]; exact x11, by rw [hf _ _ (by omega)]; exact x12, by rw [hf _ _ (by omega)]; exact x13, by rw [hf _ _ (by omega)]; exact x14, x15, by omega⟩
theorem HB.put0 {w : World} {K h s l : Nat} {w1 : World} (hyp : HB w K h s l w1) (v : Nat) : HB w K v s l (w1.setCell ⟨w.heap.size, 0, none⟩ (.float .f64 v)) := by
  obtain ⟨x0, x1, x2, x3, x4, x5, x6, x7, x8, x9, x10, x11, x12, x13, x14, x15, x16⟩ := hyp
  have hB := x0.size
  obtain ⟨u3, s3⟩ := Option.isSome_iff_exists.1 x4
  obtain ⟨u4, s4⟩ := Option.isSome_iff_exists.1 x5
  obtain ⟨u5, s5⟩ := Option.isSome_iff_exists.1 x6
  obtain ⟨u6, s6⟩ := Option.isSome_iff_exists.1 x7
  have e6 : ¬ w.heap.size = K := by omega
  have d6 : ¬ K = w.heap.size := by omega
  refine ⟨x0.setCell (by show w.heap.size ≤ w.heap.size; omega) _, ?_, ?_, ?_, ?_, ?_, ?_, ?_, ?_, ?_, ?_, ?_, ?_, ?_, ?_, x15, by simpa using x16⟩
  all_goals (set_option linter.unusedSimpArgs false in simp [go_sem, x1, x2, x3, s3, s4, s5, s6, x8, x9, x10, x11, x12, x13, x14, e6, d6])
theorem HB.put1 {w : World} {K h s l : Nat} {w1 : World} (hyp : HB w K h s l w1) (v : Nat) : HB w K h v l (w1.setCell ⟨w.heap.size + 1, 0, none⟩ (.float .f64 v)) := by
  obtain ⟨x0, x1, x2, x3, x4, x5, x6, x7, x8, x9, x10, x11, x12, x13, x14, x15, x16⟩ := hyp
  have hB := x0.size
  obtain ⟨u3, s3⟩ := Option.isSome_iff_exists.1 x4
  obtain ⟨u4, s4⟩ := Option.isSome_iff_exists.1 x5
  obtain ⟨u5, s5⟩ := Option.isSome_iff_exists.1 x6
  obtain ⟨u6, s6⟩ := Option.isSome_iff_exists.1 x7
  have e6 : ¬ w.heap.size + 1 = K := by omega
  have d6 : ¬ K = w.heap.size + 1 := by omega
  refine ⟨x0.setCell (by show w.heap.size ≤ w.heap.size + 1; omega) _, ?_, ?_, ?_, ?_, ?_, ?_, ?_, ?_, ?_, ?_, ?_, ?_, ?_, ?_, x15, by simpa using x16⟩
  all_goals (set_option linter.unusedSimpArgs false in simp [go_sem, x1, x2, x3, s3, s4, s5, s6, x8, x9, x10, x11, x12, x13, x14, e6, d6])
theorem HB.put2 {w : World} {K h s l : Nat} {w1 : World} (hyp : HB w K h s l w1) (v : Nat) : HB w K h s v (w1.setCell ⟨w.heap.size + 1 + 1, 0, none⟩ (.float .f64 v)) := by
  obtain ⟨x0, x1, x2, x3, x4, x5, x6, x7, x8, x9, x10, x11, x12, x13, x14, x15, x16⟩ := hyp
  have hB := x0.size
  obtain ⟨u3, s3⟩ := Option.isSome_iff_exists.1 x4
  obtain ⟨u4, s4⟩ := Option.isSome_iff_exists.1 x5
  obtain ⟨u5, s5⟩ := Option.isSome_iff_exists.1 x6
  obtain ⟨u6, s6⟩ := Option.isSome_iff_exists.1 x7
  have e6 : ¬ w.heap.size + 1 + 1 = K := by omega
  have d6 : ¬ K = w.heap.size + 1 + 1 := by omega
  refine ⟨x0.setCell (by show w.heap.size ≤ w.heap.size + 1 + 1; omega) _, ?_, ?_, ?_, ?_, ?_, ?_, ?_, ?_, ?_, ?_, ?_, ?_, ?_, ?_, x15, by simpa using x16⟩
  all_goals (set_option linter.unusedSimpArgs false in simp [go_sem, x1, x2, x3, s3, s4, s5, s6, x8, x9, x10, x11, x12, x13, x14, e6, d6])
theorem HB.put3 {w : World} {K h s l : Nat} {w1 : World} (hyp : HB w K h s l w1) (v : Value) : HB w K h s l (w1.setCell ⟨w.heap.size + 1 + 1 + 1, 0, none⟩ v) := by
  obtain ⟨x0, x1, x2, x3, x4, x5, x6, x7, x8, x9, x10, x11, x12, x13, x14, x15, x16⟩ := hyp
  have hB := x0.size
  obtain ⟨u3, s3⟩ := Option.isSome_iff_exists.1 x4
  obtain ⟨u4, s4⟩ := Option.isSome_iff_exists.1 x5
  obtain ⟨u5, s5⟩ := Option.isSome_iff_exists.1 x6
  obtain ⟨u6, s6⟩ := Option.isSome_iff_exists.1 x7
  have e6 : ¬ w.heap.size + 1 + 1 + 1 = K := by omega
  have d6 : ¬ K = w.heap.size + 1 + 1 + 1 := by omega
  refine ⟨x0.setCell (by show w.heap.size ≤ w.heap.size + 1 + 1 + 1; omega) _, ?_, ?_, ?_, ?_, ?_, ?_, ?_, ?_, ?_, ?_, ?_, ?_, ?_, ?_, x15, by simpa using x16⟩
  all_goals (set_option linter.unusedSimpArgs false in simp [go_sem, x1, x2, x3, s3, s4, s5, s6, x8, x9, x10, x11, x12, x13, x14, e6, d6])
theorem HB.put4 {w : World} {K h s l : Nat} {w1 : World} (hyp : HB w K h s l w1) (v : Value) : HB w K h s l (w1.setCell ⟨w.heap.size + 1 + 1 + 1 + 1, 0, none⟩ v) := by
  obtain ⟨x0, x1, x2, x3, x4, x5, x6, x7, x8, x9, x10, x11, x12, x13, x14, x15, x16⟩ := hyp
  have hB := x0.size
  obtain ⟨u3, s3⟩ := Option.isSome_iff_exists.1 x4
  obtain ⟨u4, s4⟩ := Option.isSome_iff_exists.1 x5
  obtain ⟨u5, s5⟩ := Option.isSome_iff_exists.1 x6
  obtain ⟨u6, s6⟩ := Option.isSome_iff_exists.1 x7
  have e6 : ¬ w.heap.size + 1 + 1 + 1 + 1 = K := by omega
  have d6 : ¬ K = w.heap.size + 1 + 1 + 1 + 1 := by omega
  refine ⟨x0.setCell (by show w.heap.size ≤ w.heap.size + 1 + 1 + 1 + 1; omega) _, ?_, ?_, ?_, ?_, ?_, ?_, ?_, ?_, ?_, ?_, ?_, ?_, ?_, ?_, x15, by simpa using x16⟩
  all_goals (set_option linter.unusedSimpArgs false in simp [go_sem, x1, x2, x3, s3, s4, s5, s6, x8, x9, x10, x11, x12, x13, x14, e6, d6])
theorem HB.put5 {w : World} {K h s l : Nat} {w1 : World} (hyp : HB w K h s l w1) (v : Value) : HB w K h s l (w1.setCell ⟨w.heap.size + 1 + 1 + 1 + 1 + 1, 0, none⟩ v) := by
  obtain ⟨x0, x1, x2, x3, x4, x5, x6, x7, x8, x9, x10, x11, x12, x13, x14, x15, x16⟩ := hyp
  have hB := x0.size
  obtain ⟨u3, s3⟩ := Option.isSome_iff_exists.1 x4
  obtain ⟨u4, s4⟩ := Option.isSome_iff_exists.1 x5
  obtain ⟨u5, s5⟩ := Option.isSome_iff_exists.1 x6
  obtain ⟨u6, s6⟩ := Option.isSome_iff_exists.1 x7
  have e6 : ¬ w.heap.size + 1 + 1 + 1 + 1 + 1 = K := by omega
  have d6 : ¬ K = w.heap.size + 1 + 1 + 1 + 1 + 1 := by omega
  refine ⟨x0.setCell (by show w.heap.size ≤ w.heap.size + 1 + 1 + 1 + 1 + 1; omega) _, ?_, ?_, ?_, ?_, ?_, ?_, ?_, ?_, ?_, ?_, ?_, ?_, ?_, ?_, x15, by simpa using x16⟩
  all_goals (set_option linter.unusedSimpArgs false in simp [go_sem, x1, x2, x3, s3, s4, s5, s6, x8, x9, x10, x11, x12, x13, x14, e6, d6])
theorem HB.put6 {w : World} {K h s l : Nat} {w1 : World} (hyp : HB w K h s l w1) (v : Value) : HB w K h s l (w1.setCell ⟨K, 0, none⟩ v) := by
  obtain ⟨x0, x1, x2, x3, x4, x5, x6, x7, x8, x9, x10, x11, x12, x13, x14, x15, x16⟩ := hyp
  have hB := x0.size
  obtain ⟨u3, s3⟩ := Option.isSome_iff_exists.1 x4
  obtain ⟨u4, s4⟩ := Option.isSome_iff_exists.1 x5
  obtain ⟨u5, s5⟩ := Option.isSome_iff_exists.1 x6
  obtain ⟨u6, s6⟩ := Option.isSome_iff_exists.1 x7
  have e0 : ¬ K = w.heap.size := by omega
  have d0 : ¬ w.heap.size = K := by omega
  have e1 : ¬ K = w.heap.size + 1 := by omega
  have d1 : ¬ w.heap.size + 1 = K := by omega
  have e2 : ¬ K = w.heap.size + 1 + 1 := by omega
  have d2 : ¬ w.heap.size + 1 + 1 = K := by omega
  have e3 : ¬ K = w.heap.size + 1 + 1 + 1 := by omega
  have d3 : ¬ w.heap.size + 1 + 1 + 1 = K := by omega
  have e4 : ¬ K = w.heap.size + 1 + 1 + 1 + 1 := by omega
  have d4 : ¬ w.heap.size + 1 + 1 + 1 + 1 = K := by omega
  have e5 : ¬ K = w.heap.size + 1 + 1 + 1 + 1 + 1 := by omega
  have d5 : ¬ w.heap.size + 1 + 1 + 1 + 1 + 1 = K := by omega
  refine ⟨x0.setCell (by show w.heap.size ≤ K; omega) _, ?_, ?_, ?_, ?_, ?_, ?_, ?_, ?_, ?_, ?_, ?_, ?_, ?_, ?_, x15, by simpa using x16⟩
  all_goals (set_option linter.unusedSimpArgs false in simp [go_sem, x1, x2, x3, s3, s4, s5, s6, x8, x9, x10, x11, x12, x13, x14, e0, d0, e1, d1, e2, d2, e3, d3, e4, d4, e5, d5])
theorem HB.above {w : World} {K h s l : Nat} {w1 : World} {M0 : Nat} (hyp : HB w K h s l w1) (hM : K < M0) (v : Value) : HB w K h s l (w1.setCell ⟨M0, 0, none⟩ v) := by
  obtain ⟨x0, x1, x2, x3, x4, x5, x6, x7, x8, x9, x10, x11, x12, x13, x14, x15, x16⟩ := hyp
  have hB := x0.size
  obtain ⟨u3, s3⟩ := Option.isSome_iff_exists.1 x4
  obtain ⟨u4, s4⟩ := Option.isSome_iff_exists.1 x5
  obtain ⟨u5, s5⟩ := Option.isSome_iff_exists.1 x6
  obtain ⟨u6, s6⟩ := Option.isSome_iff_exists.1 x7
  have e0 : ¬ M0 = w.heap.size := by omega
  have d0 : ¬ w.heap.size = M0 := by omega
  have e1 : ¬ M0 = w.heap.size + 1 := by omega
  have d1 : ¬ w.heap.size + 1 = M0 := by omega
  have e2 : ¬ M0 = w.heap.size + 1 + 1 := by omega
  have d2 : ¬ w.heap.size + 1 + 1 = M0 := by omega
  have e3 : ¬ M0 = w.heap.size + 1 + 1 + 1 := by omega
  have d3 : ¬ w.heap.size + 1 + 1 + 1 = M0 := by omega
  have e4 : ¬ M0 = w.heap.size + 1 + 1 + 1 + 1 := by omega
  have d4 : ¬ w.heap.size + 1 + 1 + 1 + 1 = M0 := by omega
  have e5 : ¬ M0 = w.heap.size + 1 + 1 + 1 + 1 + 1 := by omega
  have d5 : ¬ w.heap.size + 1 + 1 + 1 + 1 + 1 = M0 := by omega
  have e6 : ¬ M0 = K := by omega
  have d6 : ¬ K = M0 := by omega
  refine ⟨x0.setCell (by show w.heap.size ≤ M0; omega) _, ?_, ?_, ?_, ?_, ?_, ?_, ?_, ?_, ?_, ?_, ?_, ?_, ?_, ?_, x15, by simpa using x16⟩
  all_goals (set_option linter.unusedSimpArgs false in simp [go_sem, x1, x2, x3, s3, s4, s5, s6, x8, x9, x10, x11, x12, x13, x14, e0, d0, e1, d1, e2, d2, e3, d3, e4, d4, e5, d5, e6, d6])
theorem HB.ex3 {w : World} {K h s l : Nat} {w1 : World} (hyp : HB w K h s l w1) : ∃ v, w1.cell? ⟨w.heap.size + 1 + 1 + 1, 0, none⟩ = Option.some v := Option.isSome_iff_exists.1 hyp.2.2.2.2.1
theorem HB.ex4 {w : World} {K h s l : Nat} {w1 : World} (hyp : HB w K h s l w1) : ∃ v, w1.cell? ⟨w.heap.size + 1 + 1 + 1 + 1, 0, none⟩ = Option.some v := Option.isSome_iff_exists.1 hyp.2.2.2.2.2.1
theorem HB.ex5 {w : World} {K h s l : Nat} {w1 : World} (hyp : HB w K h s l w1) : ∃ v, w1.cell? ⟨w.heap.size + 1 + 1 + 1 + 1 + 1, 0, none⟩ = Option.some v := Option.isSome_iff_exists.1 hyp.2.2.2.2.2.2.1
theorem HB.ex6 {w : World} {K h s l : Nat} {w1 : World} (hyp : HB w K h s l w1) : ∃ v, w1.cell? ⟨K, 0, none⟩ = Option.some v := Option.isSome_iff_exists.1 hyp.2.2.2.2.2.2.2.1
def HBv (w : World) (K h s l t : Nat) (w' : World) : Prop :=
  Below w.heap.size w w' ∧ w'.cell? ⟨w.heap.size, 0, none⟩ = some (.float .f64 h) ∧ w'.cell? ⟨w.heap.size + 1, 0, none⟩ = some (.float .f64 s) ∧ w'.cell? ⟨w.heap.size + 1 + 1, 0, none⟩ = some (.float .f64 l) ∧ (w'.cell? ⟨w.heap.size + 1 + 1 + 1, 0, none⟩).isSome = true ∧ (w'.cell? ⟨w.heap.size + 1 + 1 + 1 + 1, 0, none⟩).isSome = true ∧ (w'.cell? ⟨w.heap.size + 1 + 1 + 1 + 1 + 1, 0, none⟩).isSome = true ∧ w'.cell? ⟨K, 0, none⟩ = some (.float .f64 t) ∧ w'.frozen? ⟨w.heap.size, 0, none⟩ = false ∧ w'.frozen? ⟨w.heap.size + 1, 0, none⟩ = false ∧ w'.frozen? ⟨w.heap.size + 1 + 1, 0, none⟩ = false ∧ w'.frozen? ⟨w.heap.size + 1 + 1 + 1, 0, none⟩ = false ∧ w'.frozen? ⟨w.heap.size + 1 + 1 + 1 + 1, 0, none⟩ = false ∧ w'.frozen? ⟨w.heap.size + 1 + 1 + 1 + 1 + 1, 0, none⟩ = false ∧ w'.frozen? ⟨K, 0, none⟩ = false ∧ w.heap.size + 1 + 1 + 1 + 1 + 1 < K ∧ K < w'.heap.size
theorem HBv.step {w : World} {K h s l t : Nat} {w1 w2 : World} (hyp : HBv w K h s l t w1) (hb : Below w1.heap.size w1 w2) : HBv w K h s l t w2 := by
  obtain ⟨x0, x1, x2, x3, x4, x5, x6, x7, x8, x9, x10, x11, x12, x13, x14, x15, x16⟩ := hyp
  have hc : ∀ b o, b < w1.heap.size → w2.cell? ⟨b, o, none⟩ = w1.cell? ⟨b, o, none⟩ := fun b o h => hb.cell (p := ⟨b, o, none⟩) h
  have hf : ∀ b o, b < w1.heap.size → w2.frozen? ⟨b, o, none⟩ = w1.frozen? ⟨b, o, none⟩ := fun b o h => hb.frozen (p := ⟨b, o, none⟩) h
  have hz := hb.size
  have hB := x0.size
  exact ⟨x0.trans (hb.mono (by omega)), by rw [hc _ _ (by omega)]; exact x1, by rw [hc _ _ (by omega)]; exact x2, by rw [hc _ _ (by omega)]; exact x3, by rw [hc _ _ (by omega)]; exact x4, by rw [hc _ _ (by omega)]; exact x5, by rw [hc _ _ (by omega)]; exact x6, by rw [hc _ _ (by omega)]; exact x7, by rw [hf _ _ (by omega)]; exact x8, by rw [hf _ _ (by omega)]; exact x9, by rw [hf _ _ (by omega)]; exact x10, by rw [hf _ _ (by omega)]; exact x11, by rw [hf _ _ (by omega)]; exact x12, by rw [hf _ _ (by omega)]; exact x13, by rw [hf _ _ (by omega)]; exact x14, x15, by omega⟩
theorem HBv.put0 {w : World} {K h s l t : Nat} {w1 : World} (hyp : HBv w K h s l t w1) (v : Nat) : HBv w K v s l t (w1.setCell ⟨w.heap.size, 0, none⟩ (.float .f64 v)) := by
  obtain ⟨x0, x1, x2, x3, x4, x5, x6, x7, x8, x9, x10, x11, x12, x13, x14, x15, x16⟩ := hyp
  have hB := x0.size
  obtain ⟨u3, s3⟩ := Option.isSome_iff_exists.1 x4
  obtain ⟨u4, s4⟩ := Option.isSome_iff_exists.1 x5
  obtain ⟨u5, s5⟩ := Option.isSome_iff_exists.1 x6
  have e6 : ¬ w.heap.size = K := by omega
  have d6 : ¬ K = w.heap.size := by omega
  refine ⟨x0.setCell (by show w.heap.size ≤ w.heap.size; omega) _, ?_, ?_, ?_, ?_, ?_, ?_, ?_, ?_, ?_, ?_, ?_, ?_, ?_, ?_, x15, by simpa using x16⟩
  all_goals (set_option linter.unusedSimpArgs false in simp [go_sem, x1, x2, x3, s3, s4, s5, x7, x8, x9, x10, x11, x12, x13, x14, e6, d6])
theorem HBv.put1 {w : World} {K h s l t : Nat} {w1 : World} (hyp : HBv w K h s l t w1) (v : Nat) : HBv w K h v l t (w1.setCell ⟨w.heap.size + 1, 0, none⟩ (.float .f64 v)) := by
  obtain ⟨x0, x1, x2, x3, x4, x5, x6, x7, x8, x9, x10, x11, x12, x13, x14, x15, x16⟩ := hyp
  have hB := x0.size
  obtain ⟨u3, s3⟩ := Option.isSome_iff_exists.1 x4
  obtain ⟨u4, s4⟩ := Option.isSome_iff_exists.1 x5
  obtain ⟨u5, s5⟩ := Option.isSome_iff_exists.1 x6
  have e6 : ¬ w.heap.size + 1 = K := by omega
  have d6 : ¬ K = w.heap.size + 1 := by omega
  refine ⟨x0.setCell (by show w.heap.size ≤ w.heap.size + 1; omega) _, ?_, ?_, ?_, ?_, ?_, ?_, ?_, ?_, ?_, ?_, ?_, ?_, ?_, ?_, x15, by simpa using x16⟩
  all_goals (set_option linter.unusedSimpArgs false in simp [go_sem, x1, x2, x3, s3, s4, s5, x7, x8, x9, x10, x11, x12, x13, x14, e6, d6])
theorem HBv.put2 {w : World} {K h s l t : Nat} {w1 : World} (hyp : HBv w K h s l t w1) (v : Nat) : HBv w K h s v t (w1.setCell ⟨w.heap.size + 1 + 1, 0, none⟩ (.float .f64 v)) := by
  obtain ⟨x0, x1, x2, x3, x4, x5, x6, x7, x8, x9, x10, x11, x12, x13, x14, x15, x16⟩ := hyp
  have hB := x0.size
  obtain ⟨u3, s3⟩ := Option.isSome_iff_exists.1 x4
  obtain ⟨u4, s4⟩ := Option.isSome_iff_exists.1 x5
  obtain ⟨u5, s5⟩ := Option.isSome_iff_exists.1 x6
  have e6 : ¬ w.heap.size + 1 + 1 = K := by omega
  have d6 : ¬ K = w.heap.size + 1 + 1 := by omega
  refine ⟨x0.setCell (by show w.heap.size ≤ w.heap.size + 1 + 1; omega) _, ?_, ?_, ?_, ?_, ?_, ?_, ?_, ?_, ?_, ?_, ?_, ?_, ?_, ?_, x15, by simpa using x16⟩
  all_goals (set_option linter.unusedSimpArgs false in simp [go_sem, x1, x2, x3, s3, s4, s5, x7, x8, x9, x10, x11, x12, x13, x14, e6, d6])
theorem HBv.put3 {w : World} {K h s l t : Nat} {w1 : World} (hyp : HBv w K h s l t w1) (v : Value) : HBv w K h s l t (w1.setCell ⟨w.heap.size + 1 + 1 + 1, 0, none⟩ v) := by
  obtain ⟨x0, x1, x2, x3, x4, x5, x6, x7, x8, x9, x10, x11, x12, x13, x14, x15, x16⟩ := hyp
  have hB := x0.size
  obtain ⟨u3, s3⟩ := Option.isSome_iff_exists.1 x4
  obtain ⟨u4, s4⟩ := Option.isSome_iff_exists.1 x5
  obtain ⟨u5, s5⟩ := Option.isSome_iff_exists.1 x6
  have e6 : ¬ w.heap.size + 1 + 1 + 1 = K := by omega
  have d6 : ¬ K = w.heap.size + 1 + 1 + 1 := by omega
  refine ⟨x0.setCell (by show w.heap.size ≤ w.heap.size + 1 + 1 + 1; omega) _, ?_, ?_, ?_, ?_, ?_, ?_, ?_, ?_, ?_, ?_, ?_, ?_, ?_, ?_, x15, by simpa using x16⟩
  all_goals (set_option linter.unusedSimpArgs false in simp [go_sem, x1, x2, x3, s3, s4, s5, x7, x8, x9, x10, x11, x12, x13, x14, e6, d6])
theorem HBv.put4 {w : World} {K h s l t : Nat} {w1 : World} (hyp : HBv w K h s l t w1) (v : Value) : HBv w K h s l t (w1.setCell ⟨w.heap.size + 1 + 1 + 1 + 1, 0, none⟩ v) := by
  obtain ⟨x0, x1, x2, x3, x4, x5, x6, x7, x8, x9, x10, x11, x12, x13, x14, x15, x16⟩ := hyp
  have hB := x0.size
  obtain ⟨u3, s3⟩ := Option.isSome_iff_exists.1 x4
  obtain ⟨u4, s4⟩ := Option.isSome_iff_exists.1 x5
  obtain ⟨u5, s5⟩ := Option.isSome_iff_exists.1 x6
  have e6 : ¬ w.heap.size + 1 + 1 + 1 + 1 = K := by omega
  have d6 : ¬ K = w.heap.size + 1 + 1 + 1 + 1 := by omega
  refine ⟨x0.setCell (by show w.heap.size ≤ w.heap.size + 1 + 1 + 1 + 1; omega) _, ?_, ?_, ?_, ?_, ?_, ?_, ?_, ?_, ?_, ?_, ?_, ?_, ?_, ?_, x15, by simpa using x16⟩
  all_goals (set_option linter.unusedSimpArgs false in simp [go_sem, x1, x2, x3, s3, s4, s5, x7, x8, x9, x10, x11, x12, x13, x14, e6, d6])
theorem HBv.put5 {w : World} {K h s l t : Nat} {w1 : World} (hyp : HBv w K h s l t w1) (v : Value) : HBv w K h s l t (w1.setCell ⟨w.heap.size + 1 + 1 + 1 + 1 + 1, 0, none⟩ v) := by
  obtain ⟨x0, x1, x2, x3, x4, x5, x6, x7, x8, x9, x10, x11, x12, x13, x14, x15, x16⟩ := hyp
  have hB := x0.size
  obtain ⟨u3, s3⟩ := Option.isSome_iff_exists.1 x4
  obtain ⟨u4, s4⟩ := Option.isSome_iff_exists.1 x5
  obtain ⟨u5, s5⟩ := Option.isSome_iff_exists.1 x6
  have e6 : ¬ w.heap.size + 1 + 1 + 1 + 1 + 1 = K := by omega
  have d6 : ¬ K = w.heap.size + 1 + 1 + 1 + 1 + 1 := by omega
  refine ⟨x0.setCell (by show w.heap.size ≤ w.heap.size + 1 + 1 + 1 + 1 + 1; omega) _, ?_, ?_, ?_, ?_, ?_, ?_, ?_, ?_, ?_, ?_, ?_, ?_, ?_, ?_, x15, by simpa using x16⟩
  all_goals (set_option linter.unusedSimpArgs false in simp [go_sem, x1, x2, x3, s3, s4, s5, x7, x8, x9, x10, x11, x12, x13, x14, e6, d6])
theorem HBv.put6 {w : World} {K h s l t : Nat} {w1 : World} (hyp : HBv w K h s l t w1) (v : Nat) : HBv w K h s l v (w1.setCell ⟨K, 0, none⟩ (.float .f64 v)) := by
  obtain ⟨x0, x1, x2, x3, x4, x5, x6, x7, x8, x9, x10, x11, x12, x13, x14, x15, x16⟩ := hyp
  have hB := x0.size
  obtain ⟨u3, s3⟩ := Option.isSome_iff_exists.1 x4
  obtain ⟨u4, s4⟩ := Option.isSome_iff_exists.1 x5
  obtain ⟨u5, s5⟩ := Option.isSome_iff_exists.1 x6
  have e0 : ¬ K = w.heap.size := by omega
  have d0 : ¬ w.heap.size = K := by omega
  have e1 : ¬ K = w.heap.size + 1 := by omega
  have d1 : ¬ w.heap.size + 1 = K := by omega
  have e2 : ¬ K = w.heap.size + 1 + 1 := by omega
  have d2 : ¬ w.heap.size + 1 + 1 = K := by omega
  have e3 : ¬ K = w.heap.size + 1 + 1 + 1 := by omega
  have d3 : ¬ w.heap.size + 1 + 1 + 1 = K := by omega
  have e4 : ¬ K = w.heap.size + 1 + 1 + 1 + 1 := by omega
  have d4 : ¬ w.heap.size + 1 + 1 + 1 + 1 = K := by omega
  have e5 : ¬ K = w.heap.size + 1 + 1 + 1 + 1 + 1 := by omega
  have d5 : ¬ w.heap.size + 1 + 1 + 1 + 1 + 1 = K := by omega
  refine ⟨x0.setCell (by show w.heap.size ≤ K; omega) _, ?_, ?_, ?_, ?_, ?_, ?_, ?_, ?_, ?_, ?_, ?_, ?_, ?_, ?_, x15, by simpa using x16⟩
  all_goals (set_option linter.unusedSimpArgs false in simp [go_sem, x1, x2, x3, s3, s4, s5, x7, x8, x9, x10, x11, x12, x13, x14, e0, d0, e1, d1, e2, d2, e3, d3, e4, d4, e5, d5])
theorem HBv.above {w : World} {K h s l t : Nat} {w1 : World} {M0 : Nat} (hyp : HBv w K h s l t w1) (hM : K < M0) (v : Value) : HBv w K h s l t (w1.setCell ⟨M0, 0, none⟩ v) := by
  obtain ⟨x0, x1, x2, x3, x4, x5, x6, x7, x8, x9, x10, x11, x12, x13, x14, x15, x16⟩ := hyp
  have hB := x0.size
  obtain ⟨u3, s3⟩ := Option.isSome_iff_exists.1 x4
  obtain ⟨u4, s4⟩ := Option.isSome_iff_exists.1 x5
  obtain ⟨u5, s5⟩ := Option.isSome_iff_exists.1 x6
  have e0 : ¬ M0 = w.heap.size := by omega
  have d0 : ¬ w.heap.size = M0 := by omega
  have e1 : ¬ M0 = w.heap.size + 1 := by omega
  have d1 : ¬ w.heap.size + 1 = M0 := by omega
  have e2 : ¬ M0 = w.heap.size + 1 + 1 := by omega
  have d2 : ¬ w.heap.size + 1 + 1 = M0 := by omega
  have e3 : ¬ M0 = w.heap.size + 1 + 1 + 1 := by omega
  have d3 : ¬ w.heap.size + 1 + 1 + 1 = M0 := by omega
  have e4 : ¬ M0 = w.heap.size + 1 + 1 + 1 + 1 := by omega
  have d4 : ¬ w.heap.size + 1 + 1 + 1 + 1 = M0 := by omega
  have e5 : ¬ M0 = w.heap.size + 1 + 1 + 1 + 1 + 1 := by omega
  have d5 : ¬ w.heap.size + 1 + 1 + 1 + 1 + 1 = M0 := by omega
  have e6 : ¬ M0 = K := by omega
  have d6 : ¬ K = M0 := by omega
  refine ⟨x0.setCell (by show w.heap.size ≤ M0; omega) _, ?_, ?_, ?_, ?_, ?_, ?_, ?_, ?_, ?_, ?_, ?_, ?_, ?_, ?_, x15, by simpa using x16⟩
  all_goals (set_option linter.unusedSimpArgs false in simp [go_sem, x1, x2, x3, s3, s4, s5, x7, x8, x9, x10, x11, x12, x13, x14, e0, d0, e1, d1, e2, d2, e3, d3, e4, d4, e5, d5, e6, d6])
theorem HBv.ex3 {w : World} {K h s l t : Nat} {w1 : World} (hyp : HBv w K h s l t w1) : ∃ v, w1.cell? ⟨w.heap.size + 1 + 1 + 1, 0, none⟩ = Option.some v := Option.isSome_iff_exists.1 hyp.2.2.2.2.1
theorem HBv.ex4 {w : World} {K h s l t : Nat} {w1 : World} (hyp : HBv w K h s l t w1) : ∃ v, w1.cell? ⟨w.heap.size + 1 + 1 + 1 + 1, 0, none⟩ = Option.some v := Option.isSome_iff_exists.1 hyp.2.2.2.2.2.1
theorem HBv.ex5 {w : World} {K h s l t : Nat} {w1 : World} (hyp : HBv w K h s l t w1) : ∃ v, w1.cell? ⟨w.heap.size + 1 + 1 + 1 + 1 + 1, 0, none⟩ = Option.some v := Option.isSome_iff_exists.1 hyp.2.2.2.2.2.2.1
def HC (w : World) (K M h s l t u : Nat) (w' : World) : Prop :=
  Below w.heap.size w w' ∧ w'.cell? ⟨w.heap.size, 0, none⟩ = some (.float .f64 h) ∧ w'.cell? ⟨w.heap.size + 1, 0, none⟩ = some (.float .f64 s) ∧ w'.cell? ⟨w.heap.size + 1 + 1, 0, none⟩ = some (.float .f64 l) ∧ (w'.cell? ⟨w.heap.size + 1 + 1 + 1, 0, none⟩).isSome = true ∧ (w'.cell? ⟨w.heap.size + 1 + 1 + 1 + 1, 0, none⟩).isSome = true ∧ (w'.cell? ⟨w.heap.size + 1 + 1 + 1 + 1 + 1, 0, none⟩).isSome = true ∧ w'.cell? ⟨K, 0, none⟩ = some (.float .f64 t) ∧ w'.cell? ⟨M, 0, none⟩ = some (.float .f64 u) ∧ w'.frozen? ⟨w.heap.size, 0, none⟩ = false ∧ w'.frozen? ⟨w.heap.size + 1, 0, none⟩ = false ∧ w'.frozen? ⟨w.heap.size + 1 + 1, 0, none⟩ = false ∧ w'.frozen? ⟨w.heap.size + 1 + 1 + 1, 0, none⟩ = false ∧ w'.frozen? ⟨w.heap.size + 1 + 1 + 1 + 1, 0, none⟩ = false ∧ w'.frozen? ⟨w.heap.size + 1 + 1 + 1 + 1 + 1, 0, none⟩ = false ∧ w'.frozen? ⟨K, 0, none⟩ = false ∧ w'.frozen? ⟨M, 0, none⟩ = false ∧ w.heap.size + 1 + 1 + 1 + 1 + 1 < K ∧ K < M ∧ M < w'.heap.size
theorem HC.step {w : World} {K M h s l t u : Nat} {w1 w2 : World} (hyp : HC w K M h s l t u w1) (hb : Below w1.heap.size w1 w2) : HC w K M h s l t u w2 := by
  obtain ⟨x0, x1, x2, x3, x4, x5, x6, x7, x8, x9, x10, x11, x12, x13, x14, x15, x16, x17, x18, x19⟩ := hyp
  have hc : ∀ b o, b < w1.heap.size → w2.cell? ⟨b, o, none⟩ = w1.cell? ⟨b, o, none⟩ := fun b o h => hb.cell (p := ⟨b, o, none⟩) h
  have hf : ∀ b o, b < w1.heap.size → w2.frozen? ⟨b, o, none⟩ = w1.frozen? ⟨b, o, none⟩ := fun b o h => hb.frozen (p := ⟨b, o, none⟩) h
  have hz := hb.size
  have hB := x0.size
  exact ⟨x0.trans (hb.mono (by omega)), by rw [hc _ _ (by omega)]; exact x1, by rw [hc _ _ (by omega)]; exact x2, by rw [hc _ _ (by omega)]; exact x3, by rw [hc _ _ (by omega)]; exact x4, by rw [hc _ _ (by omega)]; exact x5, by rw [hc _ _ (by omega)]; exact x6, by rw [hc _ _ (by omega)]; exact x7, by rw [hc _ _ (by omega)]; exact x8, by rw [hf _ _ (by omega)]; exact x9, by rw [hf _ _ (by omega)]; exact x10, by rw [hf _ _ (by omega)]; exact x11, by rw [hf _ _ (by omega)]; exact x12, by rw [hf _ _ (by omega)]; exact x13, by rw [hf _ _ (by omega)]; exact x14, by rw [hf _ _ (by omega)]; exact x15, by rw [hf _ _ (by omega)]; exact x16, x17, x18, by omega⟩
theorem HC.put0 {w : World} {K M h s l t u : Nat} {w1 : World} (hyp : HC w K M h s l t u w1) (v : Nat) : HC w K M v s l t u (w1.setCell ⟨w.heap.size, 0, none⟩ (.float .f64 v)) := by
  obtain ⟨x0, x1, x2, x3, x4, x5, x6, x7, x8, x9, x10, x11, x12, x13, x14, x15, x16, x17, x18, x19⟩ := hyp
  have hB := x0.size
  obtain ⟨u3, s3⟩ := Option.isSome_iff_exists.1 x4
  obtain ⟨u4, s4⟩ := Option.isSome_iff_exists.1 x5
  obtain ⟨u5, s5⟩ := Option.isSome_iff_exists.1 x6
  have e6 : ¬ w.heap.size = K := by omega
  have d6 : ¬ K = w.heap.size := by omega
  have e7 : ¬ w.heap.size = M := by omega
  have d7 : ¬ M = w.heap.size := by omega
  refine ⟨x0.setCell (by show w.heap.size ≤ w.heap.size; omega) _, ?_, ?_, ?_, ?_, ?_, ?_, ?_, ?_, ?_, ?_, ?_, ?_, ?_, ?_, ?_, ?_, x17, x18, by simpa using x19⟩
  all_goals (set_option linter.unusedSimpArgs false in simp [go_sem, x1, x2, x3, s3, s4, s5, x7, x8, x9, x10, x11, x12, x13, x14, x15, x16, e6, d6, e7, d7])
theorem HC.put1 {w : World} {K M h s l t u : Nat} {w1 : World} (hyp : HC w K M h s l t u w1) (v : Nat) : HC w K M h v l t u (w1.setCell ⟨w.heap.size + 1, 0, none⟩ (.float .f64 v)) := by
  obtain ⟨x0, x1, x2, x3, x4, x5, x6, x7, x8, x9, x10, x11, x12, x13, x14, x15, x16, x17, x18, x19⟩ := hyp
  have hB := x0.size
  obtain ⟨u3, s3⟩ := Option.isSome_iff_exists.1 x4
  obtain ⟨u4, s4⟩ := Option.isSome_iff_exists.1 x5
  obtain ⟨u5, s5⟩ := Option.isSome_iff_exists.1 x6
  have e6 : ¬ w.heap.size + 1 = K := by omega
  have d6 : ¬ K = w.heap.size + 1 := by omega
  have e7 : ¬ w.heap.size + 1 = M := by omega
  have d7 : ¬ M = w.heap.size + 1 := by omega
  refine ⟨x0.setCell (by show w.heap.size ≤ w.heap.size + 1; omega) _, ?_, ?_, ?_, ?_, ?_, ?_, ?_, ?_, ?_, ?_, ?_, ?_, ?_, ?_, ?_, ?_, x17, x18, by simpa using x19⟩
  all_goals (set_option linter.unusedSimpArgs false in simp [go_sem, x1, x2, x3, s3, s4, s5, x7, x8, x9, x10, x11, x12, x13, x14, x15, x16, e6, d6, e7, d7])
theorem HC.put2 {w : World} {K M h s l t u : Nat} {w1 : World} (hyp : HC w K M h s l t u w1) (v : Nat) : HC w K M h s v t u (w1.setCell ⟨w.heap.size + 1 + 1, 0, none⟩ (.float .f64 v)) := by
  obtain ⟨x0, x1, x2, x3, x4, x5, x6, x7, x8, x9, x10, x11, x12, x13, x14, x15, x16, x17, x18, x19⟩ := hyp
  have hB := x0.size
  obtain ⟨u3, s3⟩ := Option.isSome_iff_exists.1 x4
  obtain ⟨u4, s4⟩ := Option.isSome_iff_exists.1 x5
  obtain ⟨u5, s5⟩ := Option.isSome_iff_exists.1 x6
  have e6 : ¬ w.heap.size + 1 + 1 = K := by omega
  have d6 : ¬ K = w.heap.size + 1 + 1 := by omega
  have e7 : ¬ w.heap.size + 1 + 1 = M := by omega
  have d7 : ¬ M = w.heap.size + 1 + 1 := by omega
  refine ⟨x0.setCell (by show w.heap.size ≤ w.heap.size + 1 + 1; omega) _, ?_, ?_, ?_, ?_, ?_, ?_, ?_, ?_, ?_, ?_, ?_, ?_, ?_, ?_, ?_, ?_, x17, x18, by simpa using x19⟩
  all_goals (set_option linter.unusedSimpArgs false in simp [go_sem, x1, x2, x3, s3, s4, s5, x7, x8, x9, x10, x11, x12, x13, x14, x15, x16, e6, d6, e7, d7])
theorem HC.put3 {w : World} {K M h s l t u : Nat} {w1 : World} (hyp : HC w K M h s l t u w1) (v : Value) : HC w K M h s l t u (w1.setCell ⟨w.heap.size + 1 + 1 + 1, 0, none⟩ v) := by
  obtain ⟨x0, x1, x2, x3, x4, x5, x6, x7, x8, x9, x10, x11, x12, x13, x14, x15, x16, x17, x18, x19⟩ := hyp
  have hB := x0.size
  obtain ⟨u3, s3⟩ := Option.isSome_iff_exists.1 x4
  obtain ⟨u4, s4⟩ := Option.isSome_iff_exists.1 x5
  obtain ⟨u5, s5⟩ := Option.isSome_iff_exists.1 x6
  have e6 : ¬ w.heap.size + 1 + 1 + 1 = K := by omega
  have d6 : ¬ K = w.heap.size + 1 + 1 + 1 := by omega
  have e7 : ¬ w.heap.size + 1 + 1 + 1 = M := by omega
  have d7 : ¬ M = w.heap.size + 1 + 1 + 1 := by omega
  refine ⟨x0.setCell (by show w.heap.size ≤ w.heap.size + 1 + 1 + 1; omega) _, ?_, ?_, ?_, ?_, ?_, ?_, ?_, ?_, ?_, ?_, ?_, ?_, ?_, ?_, ?_, ?_, x17, x18, by simpa using x19⟩
  all_goals (set_option linter.unusedSimpArgs false in simp [go_sem, x1, x2, x3, s3, s4, s5, x7, x8, x9, x10, x11, x12, x13, x14, x15, x16, e6, d6, e7, d7])
theorem HC.put4 {w : World} {K M h s l t u : Nat} {w1 : World} (hyp : HC w K M h s l t u w1) (v : Value) : HC w K M h s l t u (w1.setCell ⟨w.heap.size + 1 + 1 + 1 + 1, 0, none⟩ v) := by
  obtain ⟨x0, x1, x2, x3, x4, x5, x6, x7, x8, x9, x10, x11, x12, x13, x14, x15, x16, x17, x18, x19⟩ := hyp
  have hB := x0.size
  obtain ⟨u3, s3⟩ := Option.isSome_iff_exists.1 x4
  obtain ⟨u4, s4⟩ := Option.isSome_iff_exists.1 x5
  obtain ⟨u5, s5⟩ := Option.isSome_iff_exists.1 x6
  have e6 : ¬ w.heap.size + 1 + 1 + 1 + 1 = K := by omega
  have d6 : ¬ K = w.heap.size + 1 + 1 + 1 + 1 := by omega
  have e7 : ¬ w.heap.size + 1 + 1 + 1 + 1 = M := by omega
  have d7 : ¬ M = w.heap.size + 1 + 1 + 1 + 1 := by omega
  refine ⟨x0.setCell (by show w.heap.size ≤ w.heap.size + 1 + 1 + 1 + 1; omega) _, ?_, ?_, ?_, ?_, ?_, ?_, ?_, ?_, ?_, ?_, ?_, ?_, ?_, ?_, ?_, ?_, x17, x18, by simpa using x19⟩
  all_goals (set_option linter.unusedSimpArgs false in simp [go_sem, x1, x2, x3, s3, s4, s5, x7, x8, x9, x10, x11, x12, x13, x14, x15, x16, e6, d6, e7, d7])
theorem HC.put5 {w : World} {K M h s l t u : Nat} {w1 : World} (hyp : HC w K M h s l t u w1) (v : Value) : HC w K M h s l t u (w1.setCell ⟨w.heap.size + 1 + 1 + 1 + 1 + 1, 0, none⟩ v) := by
  obtain ⟨x0, x1, x2, x3, x4, x5, x6, x7, x8, x9, x10, x11, x12, x13, x14, x15, x16, x17, x18, x19⟩ := hyp
  have hB := x0.size
  obtain ⟨u3, s3⟩ := Option.isSome_iff_exists.1 x4
  obtain ⟨u4, s4⟩ := Option.isSome_iff_exists.1 x5
  obtain ⟨u5, s5⟩ := Option.isSome_iff_exists.1 x6
  have e6 : ¬ w.heap.size + 1 + 1 + 1 + 1 + 1 = K := by omega
  have d6 : ¬ K = w.heap.size + 1 + 1 + 1 + 1 + 1 := by omega
  have e7 : ¬ w.heap.size + 1 + 1 + 1 + 1 + 1 = M := by omega
  have d7 : ¬ M = w.heap.size + 1 + 1 + 1 + 1 + 1 := by omega
  refine ⟨x0.setCell (by show w.heap.size ≤ w.heap.size + 1 + 1 + 1 + 1 + 1; omega) _, ?_, ?_, ?_, ?_, ?_, ?_, ?_, ?_, ?_, ?_, ?_, ?_, ?_, ?_, ?_, ?_, x17, x18, by simpa using x19⟩
  all_goals (set_option linter.unusedSimpArgs false in simp [go_sem, x1, x2, x3, s3, s4, s5, x7, x8, x9, x10, x11, x12, x13, x14, x15, x16, e6, d6, e7, d7])
theorem HC.put6 {w : World} {K M h s l t u : Nat} {w1 : World} (hyp : HC w K M h s l t u w1) (v : Nat) : HC w K M h s l v u (w1.setCell ⟨K, 0, none⟩ (.float .f64 v)) := by
  obtain ⟨x0, x1, x2, x3, x4, x5, x6, x7, x8, x9, x10, x11, x12, x13, x14, x15, x16, x17, x18, x19⟩ := hyp
  have hB := x0.size
  obtain ⟨u3, s3⟩ := Option.isSome_iff_exists.1 x4
  obtain ⟨u4, s4⟩ := Option.isSome_iff_exists.1 x5
  obtain ⟨u5, s5⟩ := Option.isSome_iff_exists.1 x6
  have e0 : ¬ K = w.heap.size := by omega
  have d0 : ¬ w.heap.size = K := by omega
  have e1 : ¬ K = w.heap.size + 1 := by omega
  have d1 : ¬ w.heap.size + 1 = K := by omega
  have e2 : ¬ K = w.heap.size + 1 + 1 := by omega
  have d2 : ¬ w.heap.size + 1 + 1 = K := by omega
  have e3 : ¬ K = w.heap.size + 1 + 1 + 1 := by omega
  have d3 : ¬ w.heap.size + 1 + 1 + 1 = K := by omega
  have e4 : ¬ K = w.heap.size + 1 + 1 + 1 + 1 := by omega
  have d4 : ¬ w.heap.size + 1 + 1 + 1 + 1 = K := by omega
  have e5 : ¬ K = w.heap.size + 1 + 1 + 1 + 1 + 1 := by omega
  have d5 : ¬ w.heap.size + 1 + 1 + 1 + 1 + 1 = K := by omega
  have e7 : ¬ K = M := by omega
  have d7 : ¬ M = K := by omega
  refine ⟨x0.setCell (by show w.heap.size ≤ K; omega) _, ?_, ?_, ?_, ?_, ?_, ?_, ?_, ?_, ?_, ?_, ?_, ?_, ?_, ?_, ?_, ?_, x17, x18, by simpa using x19⟩
  all_goals (set_option linter.unusedSimpArgs false in simp [go_sem, x1, x2, x3, s3, s4, s5, x7, x8, x9, x10, x11, x12, x13, x14, x15, x16, e0, d0, e1, d1, e2, d2, e3, d3, e4, d4, e5, d5, e7, d7])
theorem HC.put7 {w : World} {K M h s l t u : Nat} {w1 : World} (hyp : HC w K M h s l t u w1) (v : Nat) : HC w K M h s l t v (w1.setCell ⟨M, 0, none⟩ (.float .f64 v)) := by
  obtain ⟨x0, x1, x2, x3, x4, x5, x6, x7, x8, x9, x10, x11, x12, x13, x14, x15, x16, x17, x18, x19⟩ := hyp
  have hB := x0.size
  obtain ⟨u3, s3⟩ := Option.isSome_iff_exists.1 x4
  obtain ⟨u4, s4⟩ := Option.isSome_iff_exists.1 x5
  obtain ⟨u5, s5⟩ := Option.isSome_iff_exists.1 x6
  have e0 : ¬ M = w.heap.size := by omega
  have d0 : ¬ w.heap.size = M := by omega
  have e1 : ¬ M = w.heap.size + 1 := by omega
  have d1 : ¬ w.heap.size + 1 = M := by omega
  have e2 : ¬ M = w.heap.size + 1 + 1 := by omega
  have d2 : ¬ w.heap.size + 1 + 1 = M := by omega
  have e3 : ¬ M = w.heap.size + 1 + 1 + 1 := by omega
  have d3 : ¬ w.heap.size + 1 + 1 + 1 = M := by omega
  have e4 : ¬ M = w.heap.size + 1 + 1 + 1 + 1 := by omega
  have d4 : ¬ w.heap.size + 1 + 1 + 1 + 1 = M := by omega
  have e5 : ¬ M = w.heap.size + 1 + 1 + 1 + 1 + 1 := by omega
  have d5 : ¬ w.heap.size + 1 + 1 + 1 + 1 + 1 = M := by omega
  have e6 : ¬ M = K := by omega
  have d6 : ¬ K = M := by omega
  refine ⟨x0.setCell (by show w.heap.size ≤ M; omega) _, ?_, ?_, ?_, ?_, ?_, ?_, ?_, ?_, ?_, ?_, ?_, ?_, ?_, ?_, ?_, ?_, x17, x18, by simpa using x19⟩
  all_goals (set_option linter.unusedSimpArgs false in simp [go_sem, x1, x2, x3, s3, s4, s5, x7, x8, x9, x10, x11, x12, x13, x14, x15, x16, e0, d0, e1, d1, e2, d2, e3, d3, e4, d4, e5, d5, e6, d6])
theorem HC.above {w : World} {K M h s l t u : Nat} {w1 : World} {M0 : Nat} (hyp : HC w K M h s l t u w1) (hM : M < M0) (v : Value) : HC w K M h s l t u (w1.setCell ⟨M0, 0, none⟩ v) := by
  obtain ⟨x0, x1, x2, x3, x4, x5, x6, x7, x8, x9, x10, x11, x12, x13, x14, x15, x16, x17, x18, x19⟩ := hyp
  have hB := x0.size
  obtain ⟨u3, s3⟩ := Option.isSome_iff_exists.1 x4
  obtain ⟨u4, s4⟩ := Option.isSome_iff_exists.1 x5
  obtain ⟨u5, s5⟩ := Option.isSome_iff_exists.1 x6
  have e0 : ¬ M0 = w.heap.size := by omega
  have d0 : ¬ w.heap.size = M0 := by omega
  have e1 : ¬ M0 = w.heap.size + 1 := by omega
  have d1 : ¬ w.heap.size + 1 = M0 := by omega
  have e2 : ¬ M0 = w.heap.size + 1 + 1 := by omega
  have d2 : ¬ w.heap.size + 1 + 1 = M0 := by omega
  have e3 : ¬ M0 = w.heap.size + 1 + 1 + 1 := by omega
  have d3 : ¬ w.heap.size + 1 + 1 + 1 = M0 := by omega
  have e4 : ¬ M0 = w.heap.size + 1 + 1 + 1 + 1 := by omega
  have d4 : ¬ w.heap.size + 1 + 1 + 1 + 1 = M0 := by omega
  have e5 : ¬ M0 = w.heap.size + 1 + 1 + 1 + 1 + 1 := by omega
  have d5 : ¬ w.heap.size + 1 + 1 + 1 + 1 + 1 = M0 := by omega
  have e6 : ¬ M0 = K := by omega
  have d6 : ¬ K = M0 := by omega
  have e7 : ¬ M0 = M := by omega
  have d7 : ¬ M = M0 := by omega
  refine ⟨x0.setCell (by show w.heap.size ≤ M0; omega) _, ?_, ?_, ?_, ?_, ?_, ?_, ?_, ?_, ?_, ?_, ?_, ?_, ?_, ?_, ?_, ?_, x17, x18, by simpa using x19⟩
  all_goals (set_option linter.unusedSimpArgs false in simp [go_sem, x1, x2, x3, s3, s4, s5, x7, x8, x9, x10, x11, x12, x13, x14, x15, x16, e0, d0, e1, d1, e2, d2, e3, d3, e4, d4, e5, d5, e6, d6, e7, d7])
theorem HC.ex3 {w : World} {K M h s l t u : Nat} {w1 : World} (hyp : HC w K M h s l t u w1) : ∃ v, w1.cell? ⟨w.heap.size + 1 + 1 + 1, 0, none⟩ = Option.some v := Option.isSome_iff_exists.1 hyp.2.2.2.2.1
theorem HC.ex4 {w : World} {K M h s l t u : Nat} {w1 : World} (hyp : HC w K M h s l t u w1) : ∃ v, w1.cell? ⟨w.heap.size + 1 + 1 + 1 + 1, 0, none⟩ = Option.some v := Option.isSome_iff_exists.1 hyp.2.2.2.2.2.1
theorem HC.ex5 {w : World} {K M h s l t u : Nat} {w1 : World} (hyp : HC w K M h s l t u w1) : ∃ v, w1.cell? ⟨w.heap.size + 1 + 1 + 1 + 1 + 1, 0, none⟩ = Option.some v := Option.isSome_iff_exists.1 hyp.2.2.2.2.2.2.1
def HD (w : World) (K M h s l r t u : Nat) (w' : World) : Prop :=
  Below w.heap.size w w' ∧ w'.cell? ⟨w.heap.size, 0, none⟩ = some (.float .f64 h) ∧ w'.cell? ⟨w.heap.size + 1, 0, none⟩ = some (.float .f64 s) ∧ w'.cell? ⟨w.heap.size + 1 + 1, 0, none⟩ = some (.float .f64 l) ∧ w'.cell? ⟨w.heap.size + 1 + 1 + 1, 0, none⟩ = some (.float .f64 r) ∧ (w'.cell? ⟨w.heap.size + 1 + 1 + 1 + 1, 0, none⟩).isSome = true ∧ (w'.cell? ⟨w.heap.size + 1 + 1 + 1 + 1 + 1, 0, none⟩).isSome = true ∧ w'.cell? ⟨K, 0, none⟩ = some (.float .f64 t) ∧ w'.cell? ⟨M, 0, none⟩ = some (.float .f64 u) ∧ w'.frozen? ⟨w.heap.size, 0, none⟩ = false ∧ w'.frozen? ⟨w.heap.size + 1, 0, none⟩ = false ∧ w'.frozen? ⟨w.heap.size + 1 + 1, 0, none⟩ = false ∧ w'.frozen? ⟨w.heap.size + 1 + 1 + 1, 0, none⟩ = false ∧ w'.frozen? ⟨w.heap.size + 1 + 1 + 1 + 1, 0, none⟩ = false ∧ w'.frozen? ⟨w.heap.size + 1 + 1 + 1 + 1 + 1, 0, none⟩ = false ∧ w'.frozen? ⟨K, 0, none⟩ = false ∧ w'.frozen? ⟨M, 0, none⟩ = false ∧ w.heap.size + 1 + 1 + 1 + 1 + 1 < K ∧ K < M ∧ M < w'.heap.size
theorem HD.step {w : World} {K M h s l r t u : Nat} {w1 w2 : World} (hyp : HD w K M h s l r t u w1) (hb : Below w1.heap.size w1 w2) : HD w K M h s l r t u w2 := by
  obtain ⟨x0, x1, x2, x3, x4, x5, x6, x7, x8, x9, x10, x11, x12, x13, x14, x15, x16, x17, x18, x19⟩ := hyp
  have hc : ∀ b o, b < w1.heap.size → w2.cell? ⟨b, o, none⟩ = w1.cell? ⟨b, o, none⟩ := fun b o h => hb.cell (p := ⟨b, o, none⟩) h
  have hf : ∀ b o, b < w1.heap.size → w2.frozen? ⟨b, o, none⟩ = w1.frozen? ⟨b, o, none⟩ := fun b o h => hb.frozen (p := ⟨b, o, none⟩) h
  have hz := hb.size
  have hB := x0.size
  exact ⟨x0.trans (hb.mono (by omega)), by rw [hc _ _ (by omega)]; exact x1, by rw [hc _ _ (by omega)]; exact x2, by rw [hc _ _ (by omega)]; exact x3, by rw [hc _ _ (by omega)]; exact x4, by rw [hc _ _ (by omega)]; exact x5, by rw [hc _ _ (by omega)]; exact x6, by rw [hc _ _ (by omega)]; exact x7, by rw [hc _ _ (by omega)]; exact x8, by rw [hf _ _ (by omega)]; exact x9, by rw [hf _ _ (by omega)]; exact x10, by rw [hf _ _ (by omega)]; exact x11, by rw [hf _ _ (by omega)]; exact x12, by rw [hf _ _ (by omega)]; exact x13, by rw [hf _ _ (by omega)]; exact x14, by rw [hf _ _ (by omega)]; exact x15, by rw [hf _ _ (by omega)]; exact x16, x17, x18, by omega⟩
theorem HD.put0 {w : World} {K M h s l r t u : Nat} {w1 : World} (hyp : HD w K M h s l r t u w1) (v : Nat) : HD w K M v s l r t u (w1.setCell ⟨w.heap.size, 0, none⟩ (.float .f64 v)) := by
  obtain ⟨x0, x1, x2, x3, x4, x5, x6, x7, x8, x9, x10, x11, x12, x13, x14, x15, x16, x17, x18, x19⟩ := hyp
  have hB := x0.size
  obtain ⟨u4, s4⟩ := Option.isSome_iff_exists.1 x5
  obtain ⟨u5, s5⟩ := Option.isSome_iff_exists.1 x6
  have e6 : ¬ w.heap.size = K := by omega
  have d6 : ¬ K = w.heap.size := by omega
  have e7 : ¬ w.heap.size = M := by omega
  have d7 : ¬ M = w.heap.size := by omega
  refine ⟨x0.setCell (by show w.heap.size ≤ w.heap.size; omega) _, ?_, ?_, ?_, ?_, ?_, ?_, ?_, ?_, ?_, ?_, ?_, ?_, ?_, ?_, ?_, ?_, x17, x18, by simpa using x19⟩
  all_goals (set_option linter.unusedSimpArgs false in simp [go_sem, x1, x2, x3, x4, s4, s5, x7, x8, x9, x10, x11, x12, x13, x14, x15, x16, e6, d6, e7, d7])
theorem HD.put1 {w : World} {K M h s l r t u : Nat} {w1 : World} (hyp : HD w K M h s l r t u w1) (v : Nat) : HD w K M h v l r t u (w1.setCell ⟨w.heap.size + 1, 0, none⟩ (.float .f64 v)) := by
  obtain ⟨x0, x1, x2, x3, x4, x5, x6, x7, x8, x9, x10, x11, x12, x13, x14, x15, x16, x17, x18, x19⟩ := hyp
  have hB := x0.size
  obtain ⟨u4, s4⟩ := Option.isSome_iff_exists.1 x5
  obtain ⟨u5, s5⟩ := Option.isSome_iff_exists.1 x6
  have e6 : ¬ w.heap.size + 1 = K := by omega
  have d6 : ¬ K = w.heap.size + 1 := by omega
  have e7 : ¬ w.heap.size + 1 = M := by omega
  have d7 : ¬ M = w.heap.size + 1 := by omega
  refine ⟨x0.setCell (by show w.heap.size ≤ w.heap.size + 1; omega) _, ?_, ?_, ?_, ?_, ?_, ?_, ?_, ?_, ?_, ?_, ?_, ?_, ?_, ?_, ?_, ?_, x17, x18, by simpa using x19⟩
  all_goals (set_option linter.unusedSimpArgs false in simp [go_sem, x1, x2, x3, x4, s4, s5, x7, x8, x9, x10, x11, x12, x13, x14, x15, x16, e6, d6, e7, d7])
theorem HD.put2 {w : World} {K M h s l r t u : Nat} {w1 : World} (hyp : HD w K M h s l r t u w1) (v : Nat) : HD w K M h s v r t u (w1.setCell ⟨w.heap.size + 1 + 1, 0, none⟩ (.float .f64 v)) := by
  obtain ⟨x0, x1, x2, x3, x4, x5, x6, x7, x8, x9, x10, x11, x12, x13, x14, x15, x16, x17, x18, x19⟩ := hyp
  have hB := x0.size
  obtain ⟨u4, s4⟩ := Option.isSome_iff_exists.1 x5
  obtain ⟨u5, s5⟩ := Option.isSome_iff_exists.1 x6
  have e6 : ¬ w.heap.size + 1 + 1 = K := by omega
  have d6 : ¬ K = w.heap.size + 1 + 1 := by omega
  have e7 : ¬ w.heap.size + 1 + 1 = M := by omega
  have d7 : ¬ M = w.heap.size + 1 + 1 := by omega
  refine ⟨x0.setCell (by show w.heap.size ≤ w.heap.size + 1 + 1; omega) _, ?_, ?_, ?_, ?_, ?_, ?_, ?_, ?_, ?_, ?_, ?_, ?_, ?_, ?_, ?_, ?_, x17, x18, by simpa using x19⟩
  all_goals (set_option linter.unusedSimpArgs false in simp [go_sem, x1, x2, x3, x4, s4, s5, x7, x8, x9, x10, x11, x12, x13, x14, x15, x16, e6, d6, e7, d7])
theorem HD.put3 {w : World} {K M h s l r t u : Nat} {w1 : World} (hyp : HD w K M h s l r t u w1) (v : Nat) : HD w K M h s l v t u (w1.setCell ⟨w.heap.size + 1 + 1 + 1, 0, none⟩ (.float .f64 v)) := by
  obtain ⟨x0, x1, x2, x3, x4, x5, x6, x7, x8, x9, x10, x11, x12, x13, x14, x15, x16, x17, x18, x19⟩ := hyp
  have hB := x0.size
  obtain ⟨u4, s4⟩ := Option.isSome_iff_exists.1 x5
  obtain ⟨u5, s5⟩ := Option.isSome_iff_exists.1 x6
  have e6 : ¬ w.heap.size + 1 + 1 + 1 = K := by omega
  have d6 : ¬ K = w.heap.size + 1 + 1 + 1 := by omega
  have e7 : ¬ w.heap.size + 1 + 1 + 1 = M := by omega
  have d7 : ¬ M = w.heap.size + 1 + 1 + 1 := by omega
  refine ⟨x0.setCell (by show w.heap.size ≤ w.heap.size + 1 + 1 + 1; omega) _, ?_, ?_, ?_, ?_, ?_, ?_, ?_, ?_, ?_, ?_, ?_, ?_, ?_, ?_, ?_, ?_, x17, x18, by simpa using x19⟩
  all_goals (set_option linter.unusedSimpArgs false in simp [go_sem, x1, x2, x3, x4, s4, s5, x7, x8, x9, x10, x11, x12, x13, x14, x15, x16, e6, d6, e7, d7])
theorem HD.put4 {w : World} {K M h s l r t u : Nat} {w1 : World} (hyp : HD w K M h s l r t u w1) (v : Value) : HD w K M h s l r t u (w1.setCell ⟨w.heap.size + 1 + 1 + 1 + 1, 0, none⟩ v) := by
  obtain ⟨x0, x1, x2, x3, x4, x5, x6, x7, x8, x9, x10, x11, x12, x13, x14, x15, x16, x17, x18, x19⟩ := hyp
  have hB := x0.size
  obtain ⟨u4, s4⟩ := Option.isSome_iff_exists.1 x5
  obtain ⟨u5, s5⟩ := Option.isSome_iff_exists.1 x6
  have e6 : ¬ w.heap.size + 1 + 1 + 1 + 1 = K := by omega
  have d6 : ¬ K = w.heap.size + 1 + 1 + 1 + 1 := by omega
  have e7 : ¬ w.heap.size + 1 + 1 + 1 + 1 = M := by omega
  have d7 : ¬ M = w.heap.size + 1 + 1 + 1 + 1 := by omega
  refine ⟨x0.setCell (by show w.heap.size ≤ w.heap.size + 1 + 1 + 1 + 1; omega) _, ?_, ?_, ?_, ?_, ?_, ?_, ?_, ?_, ?_, ?_, ?_, ?_, ?_, ?_, ?_, ?_, x17, x18, by simpa using x19⟩
  all_goals (set_option linter.unusedSimpArgs false in simp [go_sem, x1, x2, x3, x4, s4, s5, x7, x8, x9, x10, x11, x12, x13, x14, x15, x16, e6, d6, e7, d7])
theorem HD.put5 {w : World} {K M h s l r t u : Nat} {w1 : World} (hyp : HD w K M h s l r t u w1) (v : Value) : HD w K M h s l r t u (w1.setCell ⟨w.heap.size + 1 + 1 + 1 + 1 + 1, 0, none⟩ v) := by
  obtain ⟨x0, x1, x2, x3, x4, x5, x6, x7, x8, x9, x10, x11, x12, x13, x14, x15, x16, x17, x18, x19⟩ := hyp
  have hB := x0.size
  obtain ⟨u4, s4⟩ := Option.isSome_iff_exists.1 x5
  obtain ⟨u5, s5⟩ := Option.isSome_iff_exists.1 x6
  have e6 : ¬ w.heap.size + 1 + 1 + 1 + 1 + 1 = K := by omega
  have d6 : ¬ K = w.heap.size + 1 + 1 + 1 + 1 + 1 := by omega
  have e7 : ¬ w.heap.size + 1 + 1 + 1 + 1 + 1 = M := by omega
  have d7 : ¬ M = w.heap.size + 1 + 1 + 1 + 1 + 1 := by omega
  refine ⟨x0.setCell (by show w.heap.size ≤ w.heap.size + 1 + 1 + 1 + 1 + 1; omega) _, ?_, ?_, ?_, ?_, ?_, ?_, ?_, ?_, ?_, ?_, ?_, ?_, ?_, ?_, ?_, ?_, x17, x18, by simpa using x19⟩
  all_goals (set_option linter.unusedSimpArgs false in simp [go_sem, x1, x2, x3, x4, s4, s5, x7, x8, x9, x10, x11, x12, x13, x14, x15, x16, e6, d6, e7, d7])
theorem HD.put6 {w : World} {K M h s l r t u : Nat} {w1 : World} (hyp : HD w K M h s l r t u w1) (v : Nat) : HD w K M h s l r v u (w1.setCell ⟨K, 0, none⟩ (.float .f64 v)) := by
  obtain ⟨x0, x1, x2, x3, x4, x5, x6, x7, x8, x9, x10, x11, x12, x13, x14, x15, x16, x17, x18, x19⟩ := hyp
  have hB := x0.size
  obtain ⟨u4, s4⟩ := Option.isSome_iff_exists.1 x5
  obtain ⟨u5, s5⟩ := Option.isSome_iff_exists.1 x6
  have e0 : ¬ K = w.heap.size := by omega
  have d0 : ¬ w.heap.size = K := by omega
  have e1 : ¬ K = w.heap.size + 1 := by omega
  have d1 : ¬ w.heap.size + 1 = K := by omega
  have e2 : ¬ K = w.heap.size + 1 + 1 := by omega
  have d2 : ¬ w.heap.size + 1 + 1 = K := by omega
  have e3 : ¬ K = w.heap.size + 1 + 1 + 1 := by omega
  have d3 : ¬ w.heap.size + 1 + 1 + 1 = K := by omega
  have e4 : ¬ K = w.heap.size + 1 + 1 + 1 + 1 := by omega
  have d4 : ¬ w.heap.size + 1 + 1 + 1 + 1 = K := by omega
  have e5 : ¬ K = w.heap.size + 1 + 1 + 1 + 1 + 1 := by omega
  have d5 : ¬ w.heap.size + 1 + 1 + 1 + 1 + 1 = K := by omega
  have e7 : ¬ K = M := by omega
  have d7 : ¬ M = K := by omega
  refine ⟨x0.setCell (by show w.heap.size ≤ K; omega) _, ?_, ?_, ?_, ?_, ?_, ?_, ?_, ?_, ?_, ?_, ?_, ?_, ?_, ?_, ?_, ?_, x17, x18, by simpa using x19⟩
  all_goals (set_option linter.unusedSimpArgs false in simp [go_sem, x1, x2, x3, x4, s4, s5, x7, x8, x9, x10, x11, x12, x13, x14, x15, x16, e0, d0, e1, d1, e2, d2, e3, d3, e4, d4, e5, d5, e7, d7])
theorem HD.put7 {w : World} {K M h s l r t u : Nat} {w1 : World} (hyp : HD w K M h s l r t u w1) (v : Nat) : HD w K M h s l r t v (w1.setCell ⟨M, 0, none⟩ (.float .f64 v)) := by
  obtain ⟨x0, x1, x2, x3, x4, x5, x6, x7, x8, x9, x10, x11, x12, x13, x14, x15, x16, x17, x18, x19⟩ := hyp
  have hB := x0.size
  obtain ⟨u4, s4⟩ := Option.isSome_iff_exists.1 x5
  obtain ⟨u5, s5⟩ := Option.isSome_iff_exists.1 x6
  have e0 : ¬ M = w.heap.size := by omega
  have d0 : ¬ w.heap.size = M := by omega
  have e1 : ¬ M = w.heap.size + 1 := by omega
  have d1 : ¬ w.heap.size + 1 = M := by omega
  have e2 : ¬ M = w.heap.size + 1 + 1 := by omega
  have d2 : ¬ w.heap.size + 1 + 1 = M := by omega
  have e3 : ¬ M = w.heap.size + 1 + 1 + 1 := by omega
  have d3 : ¬ w.heap.size + 1 + 1 + 1 = M := by omega
  have e4 : ¬ M = w.heap.size + 1 + 1 + 1 + 1 := by omega
  have d4 : ¬ w.heap.size + 1 + 1 + 1 + 1 = M := by omega
  have e5 : ¬ M = w.heap.size + 1 + 1 + 1 + 1 + 1 := by omega
  have d5 : ¬ w.heap.size + 1 + 1 + 1 + 1 + 1 = M := by omega
  have e6 : ¬ M = K := by omega
  have d6 : ¬ K = M := by omega
  refine ⟨x0.setCell (by show w.heap.size ≤ M; omega) _, ?_, ?_, ?_, ?_, ?_, ?_, ?_, ?_, ?_, ?_, ?_, ?_, ?_, ?_, ?_, ?_, x17, x18, by simpa using x19⟩
  all_goals (set_option linter.unusedSimpArgs false in simp [go_sem, x1, x2, x3, x4, s4, s5, x7, x8, x9, x10, x11, x12, x13, x14, x15, x16, e0, d0, e1, d1, e2, d2, e3, d3, e4, d4, e5, d5, e6, d6])
theorem HD.above {w : World} {K M h s l r t u : Nat} {w1 : World} {M0 : Nat} (hyp : HD w K M h s l r t u w1) (hM : M < M0) (v : Value) : HD w K M h s l r t u (w1.setCell ⟨M0, 0, none⟩ v) := by
  obtain ⟨x0, x1, x2, x3, x4, x5, x6, x7, x8, x9, x10, x11, x12, x13, x14, x15, x16, x17, x18, x19⟩ := hyp
  have hB := x0.size
  obtain ⟨u4, s4⟩ := Option.isSome_iff_exists.1 x5
  obtain ⟨u5, s5⟩ := Option.isSome_iff_exists.1 x6
  have e0 : ¬ M0 = w.heap.size := by omega
  have d0 : ¬ w.heap.size = M0 := by omega
  have e1 : ¬ M0 = w.heap.size + 1 := by omega
  have d1 : ¬ w.heap.size + 1 = M0 := by omega
  have e2 : ¬ M0 = w.heap.size + 1 + 1 := by omega
  have d2 : ¬ w.heap.size + 1 + 1 = M0 := by omega
  have e3 : ¬ M0 = w.heap.size + 1 + 1 + 1 := by omega
  have d3 : ¬ w.heap.size + 1 + 1 + 1 = M0 := by omega
  have e4 : ¬ M0 = w.heap.size + 1 + 1 + 1 + 1 := by omega
  have d4 : ¬ w.heap.size + 1 + 1 + 1 + 1 = M0 := by omega
  have e5 : ¬ M0 = w.heap.size + 1 + 1 + 1 + 1 + 1 := by omega
  have d5 : ¬ w.heap.size + 1 + 1 + 1 + 1 + 1 = M0 := by omega
  have e6 : ¬ M0 = K := by omega
  have d6 : ¬ K = M0 := by omega
  have e7 : ¬ M0 = M := by omega
  have d7 : ¬ M = M0 := by omega
  refine ⟨x0.setCell (by show w.heap.size ≤ M0; omega) _, ?_, ?_, ?_, ?_, ?_, ?_, ?_, ?_, ?_, ?_, ?_, ?_, ?_, ?_, ?_, ?_, x17, x18, by simpa using x19⟩
  all_goals (set_option linter.unusedSimpArgs false in simp [go_sem, x1, x2, x3, x4, s4, s5, x7, x8, x9, x10, x11, x12, x13, x14, x15, x16, e0, d0, e1, d1, e2, d2, e3, d3, e4, d4, e5, d5, e6, d6, e7, d7])
theorem HD.ex4 {w : World} {K M h s l r t u : Nat} {w1 : World} (hyp : HD w K M h s l r t u w1) : ∃ v, w1.cell? ⟨w.heap.size + 1 + 1 + 1 + 1, 0, none⟩ = Option.some v := Option.isSome_iff_exists.1 hyp.2.2.2.2.2.1
theorem HD.ex5 {w : World} {K M h s l r t u : Nat} {w1 : World} (hyp : HD w K M h s l r t u w1) : ∃ v, w1.cell? ⟨w.heap.size + 1 + 1 + 1 + 1 + 1, 0, none⟩ = Option.some v := Option.isSome_iff_exists.1 hyp.2.2.2.2.2.2.1
def HE (w : World) (K M h s l r g t u : Nat) (w' : World) : Prop :=
  Below w.heap.size w w' ∧ w'.cell? ⟨w.heap.size, 0, none⟩ = some (.float .f64 h) ∧ w'.cell? ⟨w.heap.size + 1, 0, none⟩ = some (.float .f64 s) ∧ w'.cell? ⟨w.heap.size + 1 + 1, 0, none⟩ = some (.float .f64 l) ∧ w'.cell? ⟨w.heap.size + 1 + 1 + 1, 0, none⟩ = some (.float .f64 r) ∧ w'.cell? ⟨w.heap.size + 1 + 1 + 1 + 1, 0, none⟩ = some (.float .f64 g) ∧ (w'.cell? ⟨w.heap.size + 1 + 1 + 1 + 1 + 1, 0, none⟩).isSome = true ∧ w'.cell? ⟨K, 0, none⟩ = some (.float .f64 t) ∧ w'.cell? ⟨M, 0, none⟩ = some (.float .f64 u) ∧ w'.frozen? ⟨w.heap.size, 0, none⟩ = false ∧ w'.frozen? ⟨w.heap.size + 1, 0, none⟩ = false ∧ w'.frozen? ⟨w.heap.size + 1 + 1, 0, none⟩ = false ∧ w'.frozen? ⟨w.heap.size + 1 + 1 + 1, 0, none⟩ = false ∧ w'.frozen? ⟨w.heap.size + 1 + 1 + 1 + 1, 0, none⟩ = false ∧ w'.frozen? ⟨w.heap.size + 1 + 1 + 1 + 1 + 1, 0, none⟩ = false ∧ w'.frozen? ⟨K, 0, none⟩ = false ∧ w'.frozen? ⟨M, 0, none⟩ = false ∧ w.heap.size + 1 + 1 + 1 + 1 + 1 < K ∧ K < M ∧ M < w'.heap.size
theorem HE.step {w : World} {K M h s l r g t u : Nat} {w1 w2 : World} (hyp : HE w K M h s l r g t u w1) (hb : Below w1.heap.size w1 w2) : HE w K M h s l r g t u w2 := by
  obtain ⟨x0, x1, x2, x3, x4, x5, x6, x7, x8, x9, x10, x11, x12, x13, x14, x15, x16, x17, x18, x19⟩ := hyp
  have hc : ∀ b o, b < w1.heap.size → w2.cell? ⟨b, o, none⟩ = w1.cell? ⟨b, o, none⟩ := fun b o h => hb.cell (p := ⟨b, o, none⟩) h
  have hf : ∀ b o, b < w1.heap.size → w2.frozen? ⟨b, o, none⟩ = w1.frozen? ⟨b, o, none⟩ := fun b o h => hb.frozen (p := ⟨b, o, none⟩) h
  have hz := hb.size
  have hB := x0.size
  exact ⟨x0.trans (hb.mono (by omega)), by rw [hc _ _ (by omega)]; exact x1, by rw [hc _ _ (by omega)]; exact x2, by rw [hc _ _ (by omega)]; exact x3, by rw [hc _ _ (by omega)]; exact x4, by rw [hc _ _ (by omega)]; exact x5, by rw [hc _ _ (by omega)]; exact x6, by rw [hc _ _ (by omega)]; exact x7, by rw [hc _ _ (by omega)]; exact x8, by rw [hf _ _ (by omega)]; exact x9, by rw [hf _ _ (by omega)]; exact x10, by rw [hf _ _ (by omega)]; exact x11, by rw [hf _ _ (by omega)]; exact x12, by rw [hf _ _ (by omega)]; exact x13, by rw [hf _ _ (by omega)]; exact x14, by rw [hf _ _ (by omega)]; exact x15, by rw [hf _ _ (by omega)]; exact x16, x17, x18, by omega⟩
theorem HE.put0 {w : World} {K M h s l r g t u : Nat} {w1 : World} (hyp : HE w K M h s l r g t u w1) (v : Nat) : HE w K M v s l r g t u (w1.setCell ⟨w.heap.size, 0, none⟩ (.float .f64 v)) := by
  obtain ⟨x0, x1, x2, x3, x4, x5, x6, x7, x8, x9, x10, x11, x12, x13, x14, x15, x16, x17, x18, x19⟩ := hyp
  have hB := x0.size
  obtain ⟨u5, s5⟩ := Option.isSome_iff_exists.1 x6
  have e6 : ¬ w.heap.size = K := by omega
  have d6 : ¬ K = w.heap.size := by omega
  have e7 : ¬ w.heap.size = M := by omega
  have d7 : ¬ M = w.heap.size := by omega
  refine ⟨x0.setCell (by show w.heap.size ≤ w.heap.size; omega) _, ?_, ?_, ?_, ?_, ?_, ?_, ?_, ?_, ?_, ?_, ?_, ?_, ?_, ?_, ?_, ?_, x17, x18, by simpa using x19⟩
  all_goals (set_option linter.unusedSimpArgs false in simp [go_sem, x1, x2, x3, x4, x5, s5, x7, x8, x9, x10, x11, x12, x13, x14, x15, x16, e6, d6, e7, d7])
theorem HE.put1 {w : World} {K M h s l r g t u : Nat} {w1 : World} (hyp : HE w K M h s l r g t u w1) (v : Nat) : HE w K M h v l r g t u (w1.setCell ⟨w.heap.size + 1, 0, none⟩ (.float .f64 v)) := by
  obtain ⟨x0, x1, x2, x3, x4, x5, x6, x7, x8, x9, x10, x11, x12, x13, x14, x15, x16, x17, x18, x19⟩ := hyp
  have hB := x0.size
  obtain ⟨u5, s5⟩ := Option.isSome_iff_exists.1 x6
  have e6 : ¬ w.heap.size + 1 = K := by omega
  have d6 : ¬ K = w.heap.size + 1 := by omega
  have e7 : ¬ w.heap.size + 1 = M := by omega
  have d7 : ¬ M = w.heap.size + 1 := by omega
  refine ⟨x0.setCell (by show w.heap.size ≤ w.heap.size + 1; omega) _, ?_, ?_, ?_, ?_, ?_, ?_, ?_, ?_, ?_, ?_, ?_, ?_, ?_, ?_, ?_, ?_, x17, x18, by simpa using x19⟩
  all_goals (set_option linter.unusedSimpArgs false in simp [go_sem, x1, x2, x3, x4, x5, s5, x7, x8, x9, x10, x11, x12, x13, x14, x15, x16, e6, d6, e7, d7])
theorem HE.put2 {w : World} {K M h s l r g t u : Nat} {w1 : World} (hyp : HE w K M h s l r g t u w1) (v : Nat) : HE w K M h s v r g t u (w1.setCell ⟨w.heap.size + 1 + 1, 0, none⟩ (.float .f64 v)) := by
  obtain ⟨x0, x1, x2, x3, x4, x5, x6, x7, x8, x9, x10, x11, x12, x13, x14, x15, x16, x17, x18, x19⟩ := hyp
  have hB := x0.size
  obtain ⟨u5, s5⟩ := Option.isSome_iff_exists.1 x6
  have e6 : ¬ w.heap.size + 1 + 1 = K := by omega
  have d6 : ¬ K = w.heap.size + 1 + 1 := by omega
  have e7 : ¬ w.heap.size + 1 + 1 = M := by omega
  have d7 : ¬ M = w.heap.size + 1 + 1 := by omega
  refine ⟨x0.setCell (by show w.heap.size ≤ w.heap.size + 1 + 1; omega) _, ?_, ?_, ?_, ?_, ?_, ?_, ?_, ?_, ?_, ?_, ?_, ?_, ?_, ?_, ?_, ?_, x17, x18, by simpa using x19⟩
  all_goals (set_option linter.unusedSimpArgs false in simp [go_sem, x1, x2, x3, x4, x5, s5, x7, x8, x9, x10, x11, x12, x13, x14, x15, x16, e6, d6, e7, d7])
theorem HE.put3 {w : World} {K M h s l r g t u : Nat} {w1 : World} (hyp : HE w K M h s l r g t u w1) (v : Nat) : HE w K M h s l v g t u (w1.setCell ⟨w.heap.size + 1 + 1 + 1, 0, none⟩ (.float .f64 v)) := by
  obtain ⟨x0, x1, x2, x3, x4, x5, x6, x7, x8, x9, x10, x11, x12, x13, x14, x15, x16, x17, x18, x19⟩ := hyp
  have hB := x0.size
  obtain ⟨u5, s5⟩ := Option.isSome_iff_exists.1 x6
  have e6 : ¬ w.heap.size + 1 + 1 + 1 = K := by omega
  have d6 : ¬ K = w.heap.size + 1 + 1 + 1 := by omega
  have e7 : ¬ w.heap.size + 1 + 1 + 1 = M := by omega
  have d7 : ¬ M = w.heap.size + 1 + 1 + 1 := by omega
  refine ⟨x0.setCell (by show w.heap.size ≤ w.heap.size + 1 + 1 + 1; omega) _, ?_, ?_, ?_, ?_, ?_, ?_, ?_, ?_, ?_, ?_, ?_, ?_, ?_, ?_, ?_, ?_, x17, x18, by simpa using x19⟩
  all_goals (set_option linter.unusedSimpArgs false in simp [go_sem, x1, x2, x3, x4, x5, s5, x7, x8, x9, x10, x11, x12, x13, x14, x15, x16, e6, d6, e7, d7])
theorem HE.put4 {w : World} {K M h s l r g t u : Nat} {w1 : World} (hyp : HE w K M h s l r g t u w1) (v : Nat) : HE w K M h s l r v t u (w1.setCell ⟨w.heap.size + 1 + 1 + 1 + 1, 0, none⟩ (.float .f64 v)) := by
  obtain ⟨x0, x1, x2, x3, x4, x5, x6, x7, x8, x9, x10, x11, x12, x13, x14, x15, x16, x17, x18, x19⟩ := hyp
  have hB := x0.size
  obtain ⟨u5, s5⟩ := Option.isSome_iff_exists.1 x6
  have e6 : ¬ w.heap.size + 1 + 1 + 1 + 1 = K := by omega
  have d6 : ¬ K = w.heap.size + 1 + 1 + 1 + 1 := by omega
  have e7 : ¬ w.heap.size + 1 + 1 + 1 + 1 = M := by omega
  have d7 : ¬ M = w.heap.size + 1 + 1 + 1 + 1 := by omega
  refine ⟨x0.setCell (by show w.heap.size ≤ w.heap.size + 1 + 1 + 1 + 1; omega) _, ?_, ?_, ?_, ?_, ?_, ?_, ?_, ?_, ?_, ?_, ?_, ?_, ?_, ?_, ?_, ?_, x17, x18, by simpa using x19⟩
  all_goals (set_option linter.unusedSimpArgs false in simp [go_sem, x1, x2, x3, x4, x5, s5, x7, x8, x9, x10, x11, x12, x13, x14, x15, x16, e6, d6, e7, d7])
theorem HE.put5 {w : World} {K M h s l r g t u : Nat} {w1 : World} (hyp : HE w K M h s l r g t u w1) (v : Value) : HE w K M h s l r g t u (w1.setCell ⟨w.heap.size + 1 + 1 + 1 + 1 + 1, 0, none⟩ v) := by
  obtain ⟨x0, x1, x2, x3, x4, x5, x6, x7, x8, x9, x10, x11, x12, x13, x14, x15, x16, x17, x18, x19⟩ := hyp
  have hB := x0.size
  obtain ⟨u5, s5⟩ := Option.isSome_iff_exists.1 x6
  have e6 : ¬ w.heap.size + 1 + 1 + 1 + 1 + 1 = K := by omega
  have d6 : ¬ K = w.heap.size + 1 + 1 + 1 + 1 + 1 := by omega
  have e7 : ¬ w.heap.size + 1 + 1 + 1 + 1 + 1 = M := by omega
  have d7 : ¬ M = w.heap.size + 1 + 1 + 1 + 1 + 1 := by omega
  refine ⟨x0.setCell (by show w.heap.size ≤ w.heap.size + 1 + 1 + 1 + 1 + 1; omega) _, ?_, ?_, ?_, ?_, ?_, ?_, ?_, ?_, ?_, ?_, ?_, ?_, ?_, ?_, ?_, ?_, x17, x18, by simpa using x19⟩
  all_goals (set_option linter.unusedSimpArgs false in simp [go_sem, x1, x2, x3, x4, x5, s5, x7, x8, x9, x10, x11, x12, x13, x14, x15, x16, e6, d6, e7, d7])
theorem HE.put6 {w : World} {K M h s l r g t u : Nat} {w1 : World} (hyp : HE w K M h s l r g t u w1) (v : Nat) : HE w K M h s l r g v u (w1.setCell ⟨K, 0, none⟩ (.float .f64 v)) := by
  obtain ⟨x0, x1, x2, x3, x4, x5, x6, x7, x8, x9, x10, x11, x12, x13, x14, x15, x16, x17, x18, x19⟩ := hyp
  have hB := x0.size
  obtain ⟨u5, s5⟩ := Option.isSome_iff_exists.1 x6
  have e0 : ¬ K = w.heap.size := by omega
  have d0 : ¬ w.heap.size = K := by omega
  have e1 : ¬ K = w.heap.size + 1 := by omega
  have d1 : ¬ w.heap.size + 1 = K := by omega
  have e2 : ¬ K = w.heap.size + 1 + 1 := by omega
  have d2 : ¬ w.heap.size + 1 + 1 = K := by omega
  have e3 : ¬ K = w.heap.size + 1 + 1 + 1 := by omega
  have d3 : ¬ w.heap.size + 1 + 1 + 1 = K := by omega
  have e4 : ¬ K = w.heap.size + 1 + 1 + 1 + 1 := by omega
  have d4 : ¬ w.heap.size + 1 + 1 + 1 + 1 = K := by omega
  have e5 : ¬ K = w.heap.size + 1 + 1 + 1 + 1 + 1 := by omega
  have d5 : ¬ w.heap.size + 1 + 1 + 1 + 1 + 1 = K := by omega
  have e7 : ¬ K = M := by omega
  have d7 : ¬ M = K := by omega
  refine ⟨x0.setCell (by show w.heap.size ≤ K; omega) _, ?_, ?_, ?_, ?_, ?_, ?_, ?_, ?_, ?_, ?_, ?_, ?_, ?_, ?_, ?_, ?_, x17, x18, by simpa using x19⟩
  all_goals (set_option linter.unusedSimpArgs false in simp [go_sem, x1, x2, x3, x4, x5, s5, x7, x8, x9, x10, x11, x12, x13, x14, x15, x16, e0, d0, e1, d1, e2, d2, e3, d3, e4, d4, e5, d5, e7, d7])
theorem HE.put7 {w : World} {K M h s l r g t u : Nat} {w1 : World} (hyp : HE w K M h s l r g t u w1) (v : Nat) : HE w K M h s l r g t v (w1.setCell ⟨M, 0, none⟩ (.float .f64 v)) := by
  obtain ⟨x0, x1, x2, x3, x4, x5, x6, x7, x8, x9, x10, x11, x12, x13, x14, x15, x16, x17, x18, x19⟩ := hyp
  have hB := x0.size
  obtain ⟨u5, s5⟩ := Option.isSome_iff_exists.1 x6
  have e0 : ¬ M = w.heap.size := by omega
  have d0 : ¬ w.heap.size = M := by omega
  have e1 : ¬ M = w.heap.size + 1 := by omega
  have d1 : ¬ w.heap.size + 1 = M := by omega
  have e2 : ¬ M = w.heap.size + 1 + 1 := by omega
  have d2 : ¬ w.heap.size + 1 + 1 = M := by omega
  have e3 : ¬ M = w.heap.size + 1 + 1 + 1 := by omega
  have d3 : ¬ w.heap.size + 1 + 1 + 1 = M := by omega
  have e4 : ¬ M = w.heap.size + 1 + 1 + 1 + 1 := by omega
  have d4 : ¬ w.heap.size + 1 + 1 + 1 + 1 = M := by omega
  have e5 : ¬ M = w.heap.size + 1 + 1 + 1 + 1 + 1 := by omega
  have d5 : ¬ w.heap.size + 1 + 1 + 1 + 1 + 1 = M := by omega
  have e6 : ¬ M = K := by omega
  have d6 : ¬ K = M := by omega
  refine ⟨x0.setCell (by show w.heap.size ≤ M; omega) _, ?_, ?_, ?_, ?_, ?_, ?_, ?_, ?_, ?_, ?_, ?_, ?_, ?_, ?_, ?_, ?_, x17, x18, by simpa using x19⟩
  all_goals (set_option linter.unusedSimpArgs false in simp [go_sem, x1, x2, x3, x4, x5, s5, x7, x8, x9, x10, x11, x12, x13, x14, x15, x16, e0, d0, e1, d1, e2, d2, e3, d3, e4, d4, e5, d5, e6, d6])
theorem HE.above {w : World} {K M h s l r g t u : Nat} {w1 : World} {M0 : Nat} (hyp : HE w K M h s l r g t u w1) (hM : M < M0) (v : Value) : HE w K M h s l r g t u (w1.setCell ⟨M0, 0, none⟩ v) := by
  obtain ⟨x0, x1, x2, x3, x4, x5, x6, x7, x8, x9, x10, x11, x12, x13, x14, x15, x16, x17, x18, x19⟩ := hyp
  have hB := x0.size
  obtain ⟨u5, s5⟩ := Option.isSome_iff_exists.1 x6
  have e0 : ¬ M0 = w.heap.size := by omega
  have d0 : ¬ w.heap.size = M0 := by omega
  have e1 : ¬ M0 = w.heap.size + 1 := by omega
  have d1 : ¬ w.heap.size + 1 = M0 := by omega
  have e2 : ¬ M0 = w.heap.size + 1 + 1 := by omega
  have d2 : ¬ w.heap.size + 1 + 1 = M0 := by omega
  have e3 : ¬ M0 = w.heap.size + 1 + 1 + 1 := by omega
  have d3 : ¬ w.heap.size + 1 + 1 + 1 = M0 := by omega
  have e4 : ¬ M0 = w.heap.size + 1 + 1 + 1 + 1 := by omega
  have d4 : ¬ w.heap.size + 1 + 1 + 1 + 1 = M0 := by omega
  have e5 : ¬ M0 = w.heap.size + 1 + 1 + 1 + 1 + 1 := by omega
  have d5 : ¬ w.heap.size + 1 + 1 + 1 + 1 + 1 = M0 := by omega
  have e6 : ¬ M0 = K := by omega
  have d6 : ¬ K = M0 := by omega
  have e7 : ¬ M0 = M := by omega
  have d7 : ¬ M = M0 := by omega
  refine ⟨x0.setCell (by show w.heap.size ≤ M0; omega) _, ?_, ?_, ?_, ?_, ?_, ?_, ?_, ?_, ?_, ?_, ?_, ?_, ?_, ?_, ?_, ?_, x17, x18, by simpa using x19⟩
  all_goals (set_option linter.unusedSimpArgs false in simp [go_sem, x1, x2, x3, x4, x5, s5, x7, x8, x9, x10, x11, x12, x13, x14, x15, x16, e0, d0, e1, d1, e2, d2, e3, d3, e4, d4, e5, d5, e6, d6, e7, d7])
theorem HE.ex5 {w : World} {K M h s l r g t u : Nat} {w1 : World} (hyp : HE w K M h s l r g t u w1) : ∃ v, w1.cell? ⟨w.heap.size + 1 + 1 + 1 + 1 + 1, 0, none⟩ = Option.some v := Option.isSome_iff_exists.1 hyp.2.2.2.2.2.2.1

def MI (K M : Nat) (w' : World) : Prop := w'.cell? ⟨M, 0, none⟩ = some (.float .f64 0) ∧ w'.frozen? ⟨M, 0, none⟩ = false ∧ M < w'.heap.size ∧ K < M
theorem MI.step {K M : Nat} {w1 w2 : World} (h : MI K M w1) (hb : Below w1.heap.size w1 w2) : MI K M w2 := by
  obtain ⟨x0, x1, x2, x3⟩ := h
  have hz := hb.size
  exact ⟨by rw [hb.cell (p := ⟨M, 0, none⟩) x2]; exact x0, by rw [hb.frozen (p := ⟨M, 0, none⟩) x2]; exact x1, by omega, x3⟩
theorem MI.ofAlloc {K : Nat} {W w1 : World} (hb : Below (W.alloc (.cells #[.float .f64 0] 43)).heap.size (W.alloc (.cells #[.float .f64 0] 43)) w1) (hK : K < W.heap.size) : MI K W.heap.size w1 := by
  have h0 : MI K W.heap.size (W.alloc (.cells #[.float .f64 0] 43)) := ⟨by simp [go_sem], by simp [go_sem], by simp, hK⟩
  exact h0.step hb
theorem MI.ofAllocD {K : Nat} {W w1 : World} (hb : Below ((W.alloc (.cells #[.float .f64 0] 43)).drew).heap.size (W.alloc (.cells #[.float .f64 0] 43)).drew w1) (hK : K < W.heap.size) : MI K W.heap.size w1 := by
  have h0 : MI K W.heap.size (W.alloc (.cells #[.float .f64 0] 43)) := ⟨by simp [go_sem], by simp [go_sem], by simp, hK⟩
  exact (h0.step (Below.refl _ _).drew).step hb
theorem HA.start (w : World) (h s l : Nat) : HA w h s l ((((((w.alloc (.cells #[.float .f64 h] 43)).alloc (.cells #[.float .f64 s] 43)).alloc (.cells #[.float .f64 l] 43)).alloc (.cells #[.float .f64 0] 43)).alloc (.cells #[.float .f64 0] 43)).alloc (.cells #[.float .f64 0] 43)) := by
  refine ⟨((((((Below.refl _ w).alloc (Nat.le_refl _) _).alloc (by simp) _).alloc (by simp; omega) _).alloc (by simp; omega) _).alloc (by simp; omega) _).alloc (by simp; omega) _, ?_⟩
  simp [go_sem]
theorem HB.start {w : World} {h s l : Nat} {w1 : World} (hyp : HA w h s l w1) : HB w w1.heap.size h s l (w1.alloc (.cells #[.float .f64 0] 43)) := by
  have hb : Below w1.heap.size w1 (w1.alloc (.cells #[.float .f64 0] 43)) := (Below.refl _ w1).alloc (Nat.le_refl _) _
  obtain ⟨x0, x1, x2, x3, x4, x5, x6, x7, x8, x9, x10, x11, x12, x13⟩ := hyp.step hb
  have hl := hyp.2.2.2.2.2.2.2.2.2.2.2.2.2
  exact ⟨x0, x1, x2, x3, x4, x5, x6, by simp [go_sem], x7, x8, x9, x10, x11, x12, by simp [go_sem], hl, by simp⟩
theorem HBv.of {w : World} {K h s l : Nat} {w1 : World} (hyp : HB w K h s l w1) (t : Nat) : HBv w K h s l t (w1.setCell ⟨K, 0, none⟩ (.float .f64 t)) := by
  obtain ⟨u, hu⟩ := hyp.ex6
  obtain ⟨x0, x1, x2, x3, x4, x5, x6, x7, x8, x9, x10, x11, x12, x13, x14, x15, x16⟩ := hyp.put6 (.float .f64 t)
  exact ⟨x0, x1, x2, x3, x4, x5, x6, by simp [go_sem, hu], x8, x9, x10, x11, x12, x13, x14, x15, x16⟩
theorem HC.of {w : World} {K h s l t M u : Nat} {w1 : World} (hyp : HBv w K h s l t w1) (h1 : w1.cell? ⟨M, 0, none⟩ = some (.float .f64 u)) (h2 : w1.frozen? ⟨M, 0, none⟩ = false) (h3 : K < M) (h4 : M < w1.heap.size) : HC w K M h s l t u w1 := by
  obtain ⟨x0, x1, x2, x3, x4, x5, x6, x7, x8, x9, x10, x11, x12, x13, x14, x15, x16⟩ := hyp
  exact ⟨x0, x1, x2, x3, x4, x5, x6, x7, h1, x8, x9, x10, x11, x12, x13, x14, h2, x15, h3, h4⟩
theorem HD.of {w : World} {K M h s l t u : Nat} {w1 : World} (hyp : HC w K M h s l t u w1) (r : Nat) : HD w K M h s l r t u (w1.setCell ⟨w.heap.size + 1 + 1 + 1, 0, none⟩ (.float .f64 r)) := by
  obtain ⟨q, hq⟩ := hyp.ex3
  obtain ⟨x0, x1, x2, x3, x4, x5, x6, x7, x8, x9, x10, x11, x12, x13, x14, x15, x16, x17, x18, x19⟩ := hyp.put3 (.float .f64 r)
  exact ⟨x0, x1, x2, x3, by simp [go_sem, hq], x5, x6, x7, x8, x9, x10, x11, x12, x13, x14, x15, x16, x17, x18, x19⟩
theorem HE.of {w : World} {K M h s l r t u : Nat} {w1 : World} (hyp : HD w K M h s l r t u w1) (g : Nat) : HE w K M h s l r g t u (w1.setCell ⟨w.heap.size + 1 + 1 + 1 + 1, 0, none⟩ (.float .f64 g)) := by
  obtain ⟨q, hq⟩ := hyp.ex4
  obtain ⟨x0, x1, x2, x3, x4, x5, x6, x7, x8, x9, x10, x11, x12, x13, x14, x15, x16, x17, x18, x19⟩ := hyp.put4 (.float .f64 g)
  exact ⟨x0, x1, x2, x3, x4, by simp [go_sem, hq], x6, x7, x8, x9, x10, x11, x12, x13, x14, x15, x16, x17, x18, x19⟩
theorem HBv.alloc {w : World} {K h s l t : Nat} {w1 : World} {o : Obj} (hyp : HBv w K h s l t w1) : HBv w K h s l t (w1.alloc o) := hyp.step ((Below.refl _ _).alloc (Nat.le_refl _) _)
end Go.Proofs.Ytcaiehnihgcegaa.F64
