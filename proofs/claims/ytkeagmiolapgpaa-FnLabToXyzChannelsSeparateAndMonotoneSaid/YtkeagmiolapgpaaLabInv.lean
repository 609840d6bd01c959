/- Invariants of lab_to_xyz's walk. Written by gen_labinv.py. -/
import Derived.Test.YtkeagmiolapgpaaCubed
namespace Go.Proofs.Ytkeagmiolapgpaa.F64
open Go.RowKit
def MI (K M : Nat) (w' : World) : Prop := w'.cell? ⟨M, 0, none⟩ = some (.float .f64 0) ∧ w'.frozen? ⟨M, 0, none⟩ = false ∧ M < w'.heap.size ∧ K < M
theorem MI.step {K M : Nat} {w1 w2 : World} (h : MI K M w1) (hb : Below w1.heap.size w1 w2) : MI K M w2 := by
  obtain ⟨x0, x1, x2, x3⟩ := h
  have hz := hb.size
  exact ⟨by rw [hb.cell (p := ⟨M, 0, none⟩) x2]; exact x0, by rw [hb.frozen (p := ⟨M, 0, none⟩) x2]; exact x1, by omega, x3⟩
theorem MI.ofAlloc {K : Nat} {W w1 : World} (hb : Below (W.alloc (.cells #[.float .f64 0] 29)).heap.size (W.alloc (.cells #[.float .f64 0] 29)) w1) (hK : K < W.heap.size) : MI K W.heap.size w1 := by
  have h0 : MI K W.heap.size (W.alloc (.cells #[.float .f64 0] 29)) := ⟨by simp [go_sem], by simp [go_sem], by simp, hK⟩
  exact h0.step hb
theorem MI.ofAllocD {K : Nat} {W w1 : World} (hb : Below ((W.alloc (.cells #[.float .f64 0] 29)).drew).heap.size (W.alloc (.cells #[.float .f64 0] 29)).drew w1) (hK : K < W.heap.size) : MI K W.heap.size w1 := by
  have h0 : MI K W.heap.size (W.alloc (.cells #[.float .f64 0] 29)) := ⟨by simp [go_sem], by simp [go_sem], by simp, hK⟩
  exact (h0.step (Below.refl _ _).drew).step hb
def LA (w : World) (l a b : Nat) (w' : World) : Prop :=
  Below w.heap.size w w' ∧ w'.cell? ⟨w.heap.size, 0, none⟩ = some (.float .f64 l) ∧ w'.cell? ⟨w.heap.size + 1, 0, none⟩ = some (.float .f64 a) ∧ w'.cell? ⟨w.heap.size + 1 + 1, 0, none⟩ = some (.float .f64 b) ∧ (w'.cell? ⟨w.heap.size + 1 + 1 + 1, 0, none⟩).isSome = true ∧ (w'.cell? ⟨w.heap.size + 1 + 1 + 1 + 1, 0, none⟩).isSome = true ∧ (w'.cell? ⟨w.heap.size + 1 + 1 + 1 + 1 + 1, 0, none⟩).isSome = true ∧ w'.frozen? ⟨w.heap.size, 0, none⟩ = false ∧ w'.frozen? ⟨w.heap.size + 1, 0, none⟩ = false ∧ w'.frozen? ⟨w.heap.size + 1 + 1, 0, none⟩ = false ∧ w'.frozen? ⟨w.heap.size + 1 + 1 + 1, 0, none⟩ = false ∧ w'.frozen? ⟨w.heap.size + 1 + 1 + 1 + 1, 0, none⟩ = false ∧ w'.frozen? ⟨w.heap.size + 1 + 1 + 1 + 1 + 1, 0, none⟩ = false ∧ w.heap.size + 1 + 1 + 1 + 1 + 1 < w'.heap.size
theorem LA.step {w : World} {l a b : Nat} {w1 w2 : World} (hyp : LA w l a b w1) (hb : Below w1.heap.size w1 w2) : LA w l a b w2 := by
  obtain ⟨x0, x1, x2, x3, x4, x5, x6, x7, x8, x9, x10, x11, x12, x13⟩ := hyp
  have hc : ∀ b o, b < w1.heap.size → w2.cell? ⟨b, o, none⟩ = w1.cell? ⟨b, o, none⟩ := fun b o h => hb.cell (p := ⟨b, o, none⟩) h
  have hf : ∀ b o, b < w1.heap.size → w2.frozen? ⟨b, o, none⟩ = w1.frozen? ⟨b, o, none⟩ := fun b o h => hb.frozen (p := ⟨b, o, none⟩) h
  have hz := hb.size
  have hB := x0.size
  exact ⟨x0.trans (hb.mono (by omega)), by rw [hc _ _ (by omega)]; exact x1, by rw [hc _ _ (by omega)]; exact x2, by rw [hc _ _ (by omega)]; exact x3, by rw [hc _ _ (by omega)]; exact x4, by rw [hc _ _ (by omega)]; exact x5, by rw [hc _ _ (by omega)]; exact x6, by rw [hf _ _ (by omega)]; exact x7, by rw [hf _ _ (by omega)]; exact x8, by rw [hf _ _ (by omega)]; exact x9, by rw [hf _ _ (by omega)]; exact x10, by rw [hf _ _ (by omega)]; exact x11, by rw [hf _ _ (by omega)]; exact x12, by omega⟩
theorem LA.put0 {w : World} {l a b : Nat} {w1 : World} (hyp : LA w l a b w1) (v : Nat) : LA w v a b (w1.setCell ⟨w.heap.size, 0, none⟩ (.float .f64 v)) := by
  obtain ⟨x0, x1, x2, x3, x4, x5, x6, x7, x8, x9, x10, x11, x12, x13⟩ := hyp
  have hB := x0.size
  obtain ⟨u3, s3⟩ := Option.isSome_iff_exists.1 x4
  obtain ⟨u4, s4⟩ := Option.isSome_iff_exists.1 x5
  obtain ⟨u5, s5⟩ := Option.isSome_iff_exists.1 x6
  refine ⟨x0.setCell (by show w.heap.size ≤ w.heap.size; omega) _, ?_, ?_, ?_, ?_, ?_, ?_, ?_, ?_, ?_, ?_, ?_, ?_, by simpa using x13⟩
  all_goals (set_option linter.unusedSimpArgs false in simp [go_sem, x1, x2, x3, s3, s4, s5, x7, x8, x9, x10, x11, x12])
theorem LA.put1 {w : World} {l a b : Nat} {w1 : World} (hyp : LA w l a b w1) (v : Nat) : LA w l v b (w1.setCell ⟨w.heap.size + 1, 0, none⟩ (.float .f64 v)) := by
  obtain ⟨x0, x1, x2, x3, x4, x5, x6, x7, x8, x9, x10, x11, x12, x13⟩ := hyp
  have hB := x0.size
  obtain ⟨u3, s3⟩ := Option.isSome_iff_exists.1 x4
  obtain ⟨u4, s4⟩ := Option.isSome_iff_exists.1 x5
  obtain ⟨u5, s5⟩ := Option.isSome_iff_exists.1 x6
  refine ⟨x0.setCell (by show w.heap.size ≤ w.heap.size + 1; omega) _, ?_, ?_, ?_, ?_, ?_, ?_, ?_, ?_, ?_, ?_, ?_, ?_, by simpa using x13⟩
  all_goals (set_option linter.unusedSimpArgs false in simp [go_sem, x1, x2, x3, s3, s4, s5, x7, x8, x9, x10, x11, x12])
theorem LA.put2 {w : World} {l a b : Nat} {w1 : World} (hyp : LA w l a b w1) (v : Nat) : LA w l a v (w1.setCell ⟨w.heap.size + 1 + 1, 0, none⟩ (.float .f64 v)) := by
  obtain ⟨x0, x1, x2, x3, x4, x5, x6, x7, x8, x9, x10, x11, x12, x13⟩ := hyp
  have hB := x0.size
  obtain ⟨u3, s3⟩ := Option.isSome_iff_exists.1 x4
  obtain ⟨u4, s4⟩ := Option.isSome_iff_exists.1 x5
  obtain ⟨u5, s5⟩ := Option.isSome_iff_exists.1 x6
  refine ⟨x0.setCell (by show w.heap.size ≤ w.heap.size + 1 + 1; omega) _, ?_, ?_, ?_, ?_, ?_, ?_, ?_, ?_, ?_, ?_, ?_, ?_, by simpa using x13⟩
  all_goals (set_option linter.unusedSimpArgs false in simp [go_sem, x1, x2, x3, s3, s4, s5, x7, x8, x9, x10, x11, x12])
theorem LA.put3 {w : World} {l a b : Nat} {w1 : World} (hyp : LA w l a b w1) (v : Value) : LA w l a b (w1.setCell ⟨w.heap.size + 1 + 1 + 1, 0, none⟩ v) := by
  obtain ⟨x0, x1, x2, x3, x4, x5, x6, x7, x8, x9, x10, x11, x12, x13⟩ := hyp
  have hB := x0.size
  obtain ⟨u3, s3⟩ := Option.isSome_iff_exists.1 x4
  obtain ⟨u4, s4⟩ := Option.isSome_iff_exists.1 x5
  obtain ⟨u5, s5⟩ := Option.isSome_iff_exists.1 x6
  refine ⟨x0.setCell (by show w.heap.size ≤ w.heap.size + 1 + 1 + 1; omega) _, ?_, ?_, ?_, ?_, ?_, ?_, ?_, ?_, ?_, ?_, ?_, ?_, by simpa using x13⟩
  all_goals (set_option linter.unusedSimpArgs false in simp [go_sem, x1, x2, x3, s3, s4, s5, x7, x8, x9, x10, x11, x12])
theorem LA.put4 {w : World} {l a b : Nat} {w1 : World} (hyp : LA w l a b w1) (v : Value) : LA w l a b (w1.setCell ⟨w.heap.size + 1 + 1 + 1 + 1, 0, none⟩ v) := by
  obtain ⟨x0, x1, x2, x3, x4, x5, x6, x7, x8, x9, x10, x11, x12, x13⟩ := hyp
  have hB := x0.size
  obtain ⟨u3, s3⟩ := Option.isSome_iff_exists.1 x4
  obtain ⟨u4, s4⟩ := Option.isSome_iff_exists.1 x5
  obtain ⟨u5, s5⟩ := Option.isSome_iff_exists.1 x6
  refine ⟨x0.setCell (by show w.heap.size ≤ w.heap.size + 1 + 1 + 1 + 1; omega) _, ?_, ?_, ?_, ?_, ?_, ?_, ?_, ?_, ?_, ?_, ?_, ?_, by simpa using x13⟩
  all_goals (set_option linter.unusedSimpArgs false in simp [go_sem, x1, x2, x3, s3, s4, s5, x7, x8, x9, x10, x11, x12])
theorem LA.put5 {w : World} {l a b : Nat} {w1 : World} (hyp : LA w l a b w1) (v : Value) : LA w l a b (w1.setCell ⟨w.heap.size + 1 + 1 + 1 + 1 + 1, 0, none⟩ v) := by
  obtain ⟨x0, x1, x2, x3, x4, x5, x6, x7, x8, x9, x10, x11, x12, x13⟩ := hyp
  have hB := x0.size
  obtain ⟨u3, s3⟩ := Option.isSome_iff_exists.1 x4
  obtain ⟨u4, s4⟩ := Option.isSome_iff_exists.1 x5
  obtain ⟨u5, s5⟩ := Option.isSome_iff_exists.1 x6
  refine ⟨x0.setCell (by show w.heap.size ≤ w.heap.size + 1 + 1 + 1 + 1 + 1; omega) _, ?_, ?_, ?_, ?_, ?_, ?_, ?_, ?_, ?_, ?_, ?_, ?_, by simpa using x13⟩
  all_goals (set_option linter.unusedSimpArgs false in simp [go_sem, x1, x2, x3, s3, s4, s5, x7, x8, x9, x10, x11, x12])
theorem LA.above {w : World} {l a b : Nat} {w1 : World} {M0 : Nat} (hyp : LA w l a b w1) (hM : w.heap.size + 1 + 1 + 1 + 1 + 1 < M0) (v : Value) : LA w l a b (w1.setCell ⟨M0, 0, none⟩ v) := by
  obtain ⟨x0, x1, x2, x3, x4, x5, x6, x7, x8, x9, x10, x11, x12, x13⟩ := hyp
  have hB := x0.size
  obtain ⟨u3, s3⟩ := Option.isSome_iff_exists.1 x4
  obtain ⟨u4, s4⟩ := Option.isSome_iff_exists.1 x5
  obtain ⟨u5, s5⟩ := Option.isSome_iff_exists.1 x6
  have e0 : ¬ M0 = w.heap.size := by omega
  have d0 : ¬ w.heap.size = M0 := by omega
  have e1 : ¬ M0 = w.heap.size + 1 := by omega
  have d1 : ¬ w.heap.size + 1 = M0 := by omega
  have e2 : ¬ M0 = w.heap.size + 1 + 1 := by omega
  have d2 : ¬ w.heap.size + 1 + 1 = M0 := by omega
  have e3 : ¬ M0 = w.heap.size + 1 + 1 + 1 := by omega
  have d3 : ¬ w.heap.size + 1 + 1 + 1 = M0 := by omega
  have e4 : ¬ M0 = w.heap.size + 1 + 1 + 1 + 1 := by omega
  have d4 : ¬ w.heap.size + 1 + 1 + 1 + 1 = M0 := by omega
  have e5 : ¬ M0 = w.heap.size + 1 + 1 + 1 + 1 + 1 := by omega
  have d5 : ¬ w.heap.size + 1 + 1 + 1 + 1 + 1 = M0 := by omega
  refine ⟨x0.setCell (by show w.heap.size ≤ M0; omega) _, ?_, ?_, ?_, ?_, ?_, ?_, ?_, ?_, ?_, ?_, ?_, ?_, by simpa using x13⟩
  all_goals (set_option linter.unusedSimpArgs false in simp [go_sem, x1, x2, x3, s3, s4, s5, x7, x8, x9, x10, x11, x12, e0, d0, e1, d1, e2, d2, e3, d3, e4, d4, e5, d5])
theorem LA.ex3 {w : World} {l a b : Nat} {w1 : World} (hyp : LA w l a b w1) : ∃ v, w1.cell? ⟨w.heap.size + 1 + 1 + 1, 0, none⟩ = Option.some v := Option.isSome_iff_exists.1 hyp.2.2.2.2.1
theorem LA.ex4 {w : World} {l a b : Nat} {w1 : World} (hyp : LA w l a b w1) : ∃ v, w1.cell? ⟨w.heap.size + 1 + 1 + 1 + 1, 0, none⟩ = Option.some v := Option.isSome_iff_exists.1 hyp.2.2.2.2.2.1
theorem LA.ex5 {w : World} {l a b : Nat} {w1 : World} (hyp : LA w l a b w1) : ∃ v, w1.cell? ⟨w.heap.size + 1 + 1 + 1 + 1 + 1, 0, none⟩ = Option.some v := Option.isSome_iff_exists.1 hyp.2.2.2.2.2.2.1
def LB (w : World) (A l a b f : Nat) (w' : World) : Prop :=
  Below w.heap.size w w' ∧ w'.cell? ⟨w.heap.size, 0, none⟩ = some (.float .f64 l) ∧ w'.cell? ⟨w.heap.size + 1, 0, none⟩ = some (.float .f64 a) ∧ w'.cell? ⟨w.heap.size + 1 + 1, 0, none⟩ = some (.float .f64 b) ∧ (w'.cell? ⟨w.heap.size + 1 + 1 + 1, 0, none⟩).isSome = true ∧ (w'.cell? ⟨w.heap.size + 1 + 1 + 1 + 1, 0, none⟩).isSome = true ∧ (w'.cell? ⟨w.heap.size + 1 + 1 + 1 + 1 + 1, 0, none⟩).isSome = true ∧ w'.cell? ⟨A, 0, none⟩ = some (.float .f64 f) ∧ w'.frozen? ⟨w.heap.size, 0, none⟩ = false ∧ w'.frozen? ⟨w.heap.size + 1, 0, none⟩ = false ∧ w'.frozen? ⟨w.heap.size + 1 + 1, 0, none⟩ = false ∧ w'.frozen? ⟨w.heap.size + 1 + 1 + 1, 0, none⟩ = false ∧ w'.frozen? ⟨w.heap.size + 1 + 1 + 1 + 1, 0, none⟩ = false ∧ w'.frozen? ⟨w.heap.size + 1 + 1 + 1 + 1 + 1, 0, none⟩ = false ∧ w'.frozen? ⟨A, 0, none⟩ = false ∧ w.heap.size + 1 + 1 + 1 + 1 + 1 < A ∧ A < w'.heap.size
theorem LB.step {w : World} {A l a b f : Nat} {w1 w2 : World} (hyp : LB w A l a b f w1) (hb : Below w1.heap.size w1 w2) : LB w A l a b f w2 := by
  obtain ⟨x0, x1, x2, x3, x4, x5, x6, x7, x8, x9, x10, x11, x12, x13, x14, x15, x16⟩ := hyp
  have hc : ∀ b o, b < w1.heap.size → w2.cell? ⟨b, o, none⟩ = w1.cell? ⟨b, o, none⟩ := fun b o h => hb.cell (p := ⟨b, o, none⟩) h
  have hf : ∀ b o, b < w1.heap.size → w2.frozen? ⟨b, o, none⟩ = w1.frozen? ⟨b, o, none⟩ := fun b o h => hb.frozen (p := ⟨b, o, none⟩) h
  have hz := hb.size
  have hB := x0.size
  exact ⟨x0.trans (hb.mono (by omega)), by rw [hc _ _ (by omega)]; exact x1, by rw [hc _ _ (by omega)]; exact x2, by rw [hc _ _ (by omega)]; exact x3, by rw [hc _ _ (by omega)]; exact x4, by rw [hc _ _ (by omega)]; exact x5, by rw [hc _ _ (by omega)]; exact x6, by rw [hc _ _ (by omega)]; exact x7, by rw [hf _ _ (by omega)]; exact x8, by rw [hf _ _ (by omega)]; exact x9, by rw [hf _ _ (by omega)]; exact x10, by rw [hf _ _ (by omega)]; exact x11, by rw [hf _ _ (by omega)]; exact x12, by rw [hf _ _ (by omega)]; exact x13, by rw [hf _ _ (by omega)]; exact x14, x15, by omega⟩
theorem LB.put0 {w : World} {A l a b f : Nat} {w1 : World} (hyp : LB w A l a b f w1) (v : Nat) : LB w A v a b f (w1.setCell ⟨w.heap.size, 0, none⟩ (.float .f64 v)) := by
  obtain ⟨x0, x1, x2, x3, x4, x5, x6, x7, x8, x9, x10, x11, x12, x13, x14, x15, x16⟩ := hyp
  have hB := x0.size
  obtain ⟨u3, s3⟩ := Option.isSome_iff_exists.1 x4
  obtain ⟨u4, s4⟩ := Option.isSome_iff_exists.1 x5
  obtain ⟨u5, s5⟩ := Option.isSome_iff_exists.1 x6
  have e6 : ¬ w.heap.size = A := by omega
  have d6 : ¬ A = w.heap.size := by omega
  refine ⟨x0.setCell (by show w.heap.size ≤ w.heap.size; omega) _, ?_, ?_, ?_, ?_, ?_, ?_, ?_, ?_, ?_, ?_, ?_, ?_, ?_, ?_, x15, by simpa using x16⟩
  all_goals (set_option linter.unusedSimpArgs false in simp [go_sem, x1, x2, x3, s3, s4, s5, x7, x8, x9, x10, x11, x12, x13, x14, e6, d6])
theorem LB.put1 {w : World} {A l a b f : Nat} {w1 : World} (hyp : LB w A l a b f w1) (v : Nat) : LB w A l v b f (w1.setCell ⟨w.heap.size + 1, 0, none⟩ (.float .f64 v)) := by
  obtain ⟨x0, x1, x2, x3, x4, x5, x6, x7, x8, x9, x10, x11, x12, x13, x14, x15, x16⟩ := hyp
  have hB := x0.size
  obtain ⟨u3, s3⟩ := Option.isSome_iff_exists.1 x4
  obtain ⟨u4, s4⟩ := Option.isSome_iff_exists.1 x5
  obtain ⟨u5, s5⟩ := Option.isSome_iff_exists.1 x6
  have e6 : ¬ w.heap.size + 1 = A := by omega
  have d6 : ¬ A = w.heap.size + 1 := by omega
  refine ⟨x0.setCell (by show w.heap.size ≤ w.heap.size + 1; omega) _, ?_, ?_, ?_, ?_, ?_, ?_, ?_, ?_, ?_, ?_, ?_, ?_, ?_, ?_, x15, by simpa using x16⟩
  all_goals (set_option linter.unusedSimpArgs false in simp [go_sem, x1, x2, x3, s3, s4, s5, x7, x8, x9, x10, x11, x12, x13, x14, e6, d6])
theorem LB.put2 {w : World} {A l a b f : Nat} {w1 : World} (hyp : LB w A l a b f w1) (v : Nat) : LB w A l a v f (w1.setCell ⟨w.heap.size + 1 + 1, 0, none⟩ (.float .f64 v)) := by
  obtain ⟨x0, x1, x2, x3, x4, x5, x6, x7, x8, x9, x10, x11, x12, x13, x14, x15, x16⟩ := hyp
  have hB := x0.size
  obtain ⟨u3, s3⟩ := Option.isSome_iff_exists.1 x4
  obtain ⟨u4, s4⟩ := Option.isSome_iff_exists.1 x5
  obtain ⟨u5, s5⟩ := Option.isSome_iff_exists.1 x6
  have e6 : ¬ w.heap.size + 1 + 1 = A := by omega
  have d6 : ¬ A = w.heap.size + 1 + 1 := by omega
  refine ⟨x0.setCell (by show w.heap.size ≤ w.heap.size + 1 + 1; omega) _, ?_, ?_, ?_, ?_, ?_, ?_, ?_, ?_, ?_, ?_, ?_, ?_, ?_, ?_, x15, by simpa using x16⟩
  all_goals (set_option linter.unusedSimpArgs false in simp [go_sem, x1, x2, x3, s3, s4, s5, x7, x8, x9, x10, x11, x12, x13, x14, e6, d6])
theorem LB.put3 {w : World} {A l a b f : Nat} {w1 : World} (hyp : LB w A l a b f w1) (v : Value) : LB w A l a b f (w1.setCell ⟨w.heap.size + 1 + 1 + 1, 0, none⟩ v) := by
  obtain ⟨x0, x1, x2, x3, x4, x5, x6, x7, x8, x9, x10, x11, x12, x13, x14, x15, x16⟩ := hyp
  have hB := x0.size
  obtain ⟨u3, s3⟩ := Option.isSome_iff_exists.1 x4
  obtain ⟨u4, s4⟩ := Option.isSome_iff_exists.1 x5
  obtain ⟨u5, s5⟩ := Option.isSome_iff_exists.1 x6
  have e6 : ¬ w.heap.size + 1 + 1 + 1 = A := by omega
  have d6 : ¬ A = w.heap.size + 1 + 1 + 1 := by omega
  refine ⟨x0.setCell (by show w.heap.size ≤ w.heap.size + 1 + 1 + 1; omega) _, ?_, ?_, ?_, ?_, ?_, ?_, ?_, ?_, ?_, ?_, ?_, ?_, ?_, ?_, x15, by simpa using x16⟩
  all_goals (set_option linter.unusedSimpArgs false in simp [go_sem, x1, x2, x3, s3, s4, s5, x7, x8, x9, x10, x11, x12, x13, x14, e6, d6])
theorem LB.put4 {w : World} {A l a b f : Nat} {w1 : World} (hyp : LB w A l a b f w1) (v : Value) : LB w A l a b f (w1.setCell ⟨w.heap.size + 1 + 1 + 1 + 1, 0, none⟩ v) := by
  obtain ⟨x0, x1, x2, x3, x4, x5, x6, x7, x8, x9, x10, x11, x12, x13, x14, x15, x16⟩ := hyp
  have hB := x0.size
  obtain ⟨u3, s3⟩ := Option.isSome_iff_exists.1 x4
  obtain ⟨u4, s4⟩ := Option.isSome_iff_exists.1 x5
  obtain ⟨u5, s5⟩ := Option.isSome_iff_exists.1 x6
  have e6 : ¬ w.heap.size + 1 + 1 + 1 + 1 = A := by omega
  have d6 : ¬ A = w.heap.size + 1 + 1 + 1 + 1 := by omega
  refine ⟨x0.setCell (by show w.heap.size ≤ w.heap.size + 1 + 1 + 1 + 1; omega) _, ?_, ?_, ?_, ?_, ?_, ?_, ?_, ?_, ?_, ?_, ?_, ?_, ?_, ?_, x15, by simpa using x16⟩
  all_goals (set_option linter.unusedSimpArgs false in simp [go_sem, x1, x2, x3, s3, s4, s5, x7, x8, x9, x10, x11, x12, x13, x14, e6, d6])
theorem LB.put5 {w : World} {A l a b f : Nat} {w1 : World} (hyp : LB w A l a b f w1) (v : Value) : LB w A l a b f (w1.setCell ⟨w.heap.size + 1 + 1 + 1 + 1 + 1, 0, none⟩ v) := by
  obtain ⟨x0, x1, x2, x3, x4, x5, x6, x7, x8, x9, x10, x11, x12, x13, x14, x15, x16⟩ := hyp
  have hB := x0.size
  obtain ⟨u3, s3⟩ := Option.isSome_iff_exists.1 x4
  obtain ⟨u4, s4⟩ := Option.isSome_iff_exists.1 x5
  obtain ⟨u5, s5⟩ := Option.isSome_iff_exists.1 x6
  have e6 : ¬ w.heap.size + 1 + 1 + 1 + 1 + 1 = A := by omega
  have d6 : ¬ A = w.heap.size + 1 + 1 + 1 + 1 + 1 := by omega
  refine ⟨x0.setCell (by show w.heap.size ≤ w.heap.size + 1 + 1 + 1 + 1 + 1; omega) _, ?_, ?_, ?_, ?_, ?_, ?_, ?_, ?_, ?_, ?_, ?_, ?_, ?_, ?_, x15, by simpa using x16⟩
  all_goals (set_option linter.unusedSimpArgs false in simp [go_sem, x1, x2, x3, s3, s4, s5, x7, x8, x9, x10, x11, x12, x13, x14, e6, d6])
theorem LB.put6 {w : World} {A l a b f : Nat} {w1 : World} (hyp : LB w A l a b f w1) (v : Nat) : LB w A l a b v (w1.setCell ⟨A, 0, none⟩ (.float .f64 v)) := by
  obtain ⟨x0, x1, x2, x3, x4, x5, x6, x7, x8, x9, x10, x11, x12, x13, x14, x15, x16⟩ := hyp
  have hB := x0.size
  obtain ⟨u3, s3⟩ := Option.isSome_iff_exists.1 x4
  obtain ⟨u4, s4⟩ := Option.isSome_iff_exists.1 x5
  obtain ⟨u5, s5⟩ := Option.isSome_iff_exists.1 x6
  have e0 : ¬ A = w.heap.size := by omega
  have d0 : ¬ w.heap.size = A := by omega
  have e1 : ¬ A = w.heap.size + 1 := by omega
  have d1 : ¬ w.heap.size + 1 = A := by omega
  have e2 : ¬ A = w.heap.size + 1 + 1 := by omega
  have d2 : ¬ w.heap.size + 1 + 1 = A := by omega
  have e3 : ¬ A = w.heap.size + 1 + 1 + 1 := by omega
  have d3 : ¬ w.heap.size + 1 + 1 + 1 = A := by omega
  have e4 : ¬ A = w.heap.size + 1 + 1 + 1 + 1 := by omega
  have d4 : ¬ w.heap.size + 1 + 1 + 1 + 1 = A := by omega
  have e5 : ¬ A = w.heap.size + 1 + 1 + 1 + 1 + 1 := by omega
  have d5 : ¬ w.heap.size + 1 + 1 + 1 + 1 + 1 = A := by omega
  refine ⟨x0.setCell (by show w.heap.size ≤ A; omega) _, ?_, ?_, ?_, ?_, ?_, ?_, ?_, ?_, ?_, ?_, ?_, ?_, ?_, ?_, x15, by simpa using x16⟩
  all_goals (set_option linter.unusedSimpArgs false in simp [go_sem, x1, x2, x3, s3, s4, s5, x7, x8, x9, x10, x11, x12, x13, x14, e0, d0, e1, d1, e2, d2, e3, d3, e4, d4, e5, d5])
theorem LB.above {w : World} {A l a b f : Nat} {w1 : World} {M0 : Nat} (hyp : LB w A l a b f w1) (hM : A < M0) (v : Value) : LB w A l a b f (w1.setCell ⟨M0, 0, none⟩ v) := by
  obtain ⟨x0, x1, x2, x3, x4, x5, x6, x7, x8, x9, x10, x11, x12, x13, x14, x15, x16⟩ := hyp
  have hB := x0.size
  obtain ⟨u3, s3⟩ := Option.isSome_iff_exists.1 x4
  obtain ⟨u4, s4⟩ := Option.isSome_iff_exists.1 x5
  obtain ⟨u5, s5⟩ := Option.isSome_iff_exists.1 x6
  have e0 : ¬ M0 = w.heap.size := by omega
  have d0 : ¬ w.heap.size = M0 := by omega
  have e1 : ¬ M0 = w.heap.size + 1 := by omega
  have d1 : ¬ w.heap.size + 1 = M0 := by omega
  have e2 : ¬ M0 = w.heap.size + 1 + 1 := by omega
  have d2 : ¬ w.heap.size + 1 + 1 = M0 := by omega
  have e3 : ¬ M0 = w.heap.size + 1 + 1 + 1 := by omega
  have d3 : ¬ w.heap.size + 1 + 1 + 1 = M0 := by omega
  have e4 : ¬ M0 = w.heap.size + 1 + 1 + 1 + 1 := by omega
  have d4 : ¬ w.heap.size + 1 + 1 + 1 + 1 = M0 := by omega
  have e5 : ¬ M0 = w.heap.size + 1 + 1 + 1 + 1 + 1 := by omega
  have d5 : ¬ w.heap.size + 1 + 1 + 1 + 1 + 1 = M0 := by omega
  have e6 : ¬ M0 = A := by omega
  have d6 : ¬ A = M0 := by omega
  refine ⟨x0.setCell (by show w.heap.size ≤ M0; omega) _, ?_, ?_, ?_, ?_, ?_, ?_, ?_, ?_, ?_, ?_, ?_, ?_, ?_, ?_, x15, by simpa using x16⟩
  all_goals (set_option linter.unusedSimpArgs false in simp [go_sem, x1, x2, x3, s3, s4, s5, x7, x8, x9, x10, x11, x12, x13, x14, e0, d0, e1, d1, e2, d2, e3, d3, e4, d4, e5, d5, e6, d6])
theorem LB.ex3 {w : World} {A l a b f : Nat} {w1 : World} (hyp : LB w A l a b f w1) : ∃ v, w1.cell? ⟨w.heap.size + 1 + 1 + 1, 0, none⟩ = Option.some v := Option.isSome_iff_exists.1 hyp.2.2.2.2.1
theorem LB.ex4 {w : World} {A l a b f : Nat} {w1 : World} (hyp : LB w A l a b f w1) : ∃ v, w1.cell? ⟨w.heap.size + 1 + 1 + 1 + 1, 0, none⟩ = Option.some v := Option.isSome_iff_exists.1 hyp.2.2.2.2.2.1
theorem LB.ex5 {w : World} {A l a b f : Nat} {w1 : World} (hyp : LB w A l a b f w1) : ∃ v, w1.cell? ⟨w.heap.size + 1 + 1 + 1 + 1 + 1, 0, none⟩ = Option.some v := Option.isSome_iff_exists.1 hyp.2.2.2.2.2.2.1
theorem LB.of {w : World} {l a b A f : Nat} {w1 : World} (hyp : LA w l a b w1) (h1 : w1.cell? ⟨A, 0, none⟩ = some (.float .f64 f)) (h2 : w1.frozen? ⟨A, 0, none⟩ = false) (h3 : w.heap.size + 1 + 1 + 1 + 1 + 1 < A) (h4 : A < w1.heap.size) : LB w A l a b f w1 := by
  obtain ⟨x0, x1, x2, x3, x4, x5, x6, x7, x8, x9, x10, x11, x12, x13⟩ := hyp
  exact ⟨x0, x1, x2, x3, x4, x5, x6, h1, x7, x8, x9, x10, x11, x12, h2, h3, h4⟩
theorem LB.new {w : World} {l a b : Nat} {w1 : World} (hyp : LA w l a b w1) (t f : Nat) : LB w w1.heap.size l a b f (w1.alloc (.cells #[.float .f64 f] t)) :=
  LB.of (hyp.step ((Below.refl _ _).alloc (Nat.le_refl _) _)) (by simp [go_sem]) (by simp [go_sem]) (by have := hyp.2.2.2.2.2.2.2.2.2.2.2.2.2; exact this) (by simp)
theorem LA.alloc {w : World} {l a b : Nat} {w1 : World} {o : Obj} (hyp : LA w l a b w1) : LA w l a b (w1.alloc o) := hyp.step ((Below.refl _ _).alloc (Nat.le_refl _) _)
def LC (w : World) (A B l a b f g : Nat) (w' : World) : Prop :=
  Below w.heap.size w w' ∧ w'.cell? ⟨w.heap.size, 0, none⟩ = some (.float .f64 l) ∧ w'.cell? ⟨w.heap.size + 1, 0, none⟩ = some (.float .f64 a) ∧ w'.cell? ⟨w.heap.size + 1 + 1, 0, none⟩ = some (.float .f64 b) ∧ (w'.cell? ⟨w.heap.size + 1 + 1 + 1, 0, none⟩).isSome = true ∧ (w'.cell? ⟨w.heap.size + 1 + 1 + 1 + 1, 0, none⟩).isSome = true ∧ (w'.cell? ⟨w.heap.size + 1 + 1 + 1 + 1 + 1, 0, none⟩).isSome = true ∧ w'.cell? ⟨A, 0, none⟩ = some (.float .f64 f) ∧ w'.cell? ⟨B, 0, none⟩ = some (.float .f64 g) ∧ w'.frozen? ⟨w.heap.size, 0, none⟩ = false ∧ w'.frozen? ⟨w.heap.size + 1, 0, none⟩ = false ∧ w'.frozen? ⟨w.heap.size + 1 + 1, 0, none⟩ = false ∧ w'.frozen? ⟨w.heap.size + 1 + 1 + 1, 0, none⟩ = false ∧ w'.frozen? ⟨w.heap.size + 1 + 1 + 1 + 1, 0, none⟩ = false ∧ w'.frozen? ⟨w.heap.size + 1 + 1 + 1 + 1 + 1, 0, none⟩ = false ∧ w'.frozen? ⟨A, 0, none⟩ = false ∧ w'.frozen? ⟨B, 0, none⟩ = false ∧ w.heap.size + 1 + 1 + 1 + 1 + 1 < A ∧ A < B ∧ B < w'.heap.size
theorem LC.step {w : World} {A B l a b f g : Nat} {w1 w2 : World} (hyp : LC w A B l a b f g w1) (hb : Below w1.heap.size w1 w2) : LC w A B l a b f g w2 := by
  obtain ⟨x0, x1, x2, x3, x4, x5, x6, x7, x8, x9, x10, x11, x12, x13, x14, x15, x16, x17, x18, x19⟩ := hyp
  have hc : ∀ b o, b < w1.heap.size → w2.cell? ⟨b, o, none⟩ = w1.cell? ⟨b, o, none⟩ := fun b o h => hb.cell (p := ⟨b, o, none⟩) h
  have hf : ∀ b o, b < w1.heap.size → w2.frozen? ⟨b, o, none⟩ = w1.frozen? ⟨b, o, none⟩ := fun b o h => hb.frozen (p := ⟨b, o, none⟩) h
  have hz := hb.size
  have hB := x0.size
  exact ⟨x0.trans (hb.mono (by omega)), by rw [hc _ _ (by omega)]; exact x1, by rw [hc _ _ (by omega)]; exact x2, by rw [hc _ _ (by omega)]; exact x3, by rw [hc _ _ (by omega)]; exact x4, by rw [hc _ _ (by omega)]; exact x5, by rw [hc _ _ (by omega)]; exact x6, by rw [hc _ _ (by omega)]; exact x7, by rw [hc _ _ (by omega)]; exact x8, by rw [hf _ _ (by omega)]; exact x9, by rw [hf _ _ (by omega)]; exact x10, by rw [hf _ _ (by omega)]; exact x11, by rw [hf _ _ (by omega)]; exact x12, by rw [hf _ _ (by omega)]; exact x13, by rw [hf _ _ (by omega)]; exact x14, by rw [hf _ _ (by omega)]; exact x15, by rw [hf _ _ (by omega)]; exact x16, x17, x18, by omega⟩
theorem LC.put0 {w : World} {A B l a b f g : Nat} {w1 : World} (hyp : LC w A B l a b f g w1) (v : Nat) : LC w A B v a b f g (w1.setCell ⟨w.heap.size, 0, none⟩ (.float .f64 v)) := by
  obtain ⟨x0, x1, x2, x3, x4, x5, x6, x7, x8, x9, x10, x11, x12, x13, x14, x15, x16, x17, x18, x19⟩ := hyp
  have hB := x0.size
  obtain ⟨u3, s3⟩ := Option.isSome_iff_exists.1 x4
  obtain ⟨u4, s4⟩ := Option.isSome_iff_exists.1 x5
  obtain ⟨u5, s5⟩ := Option.isSome_iff_exists.1 x6
  have e6 : ¬ w.heap.size = A := by omega
  have d6 : ¬ A = w.heap.size := by omega
  have e7 : ¬ w.heap.size = B := by omega
  have d7 : ¬ B = w.heap.size := by omega
  refine ⟨x0.setCell (by show w.heap.size ≤ w.heap.size; omega) _, ?_, ?_, ?_, ?_, ?_, ?_, ?_, ?_, ?_, ?_, ?_, ?_, ?_, ?_, ?_, ?_, x17, x18, by simpa using x19⟩
  all_goals (set_option linter.unusedSimpArgs false in simp [go_sem, x1, x2, x3, s3, s4, s5, x7, x8, x9, x10, x11, x12, x13, x14, x15, x16, e6, d6, e7, d7])
theorem LC.put1 {w : World} {A B l a b f g : Nat} {w1 : World} (hyp : LC w A B l a b f g w1) (v : Nat) : LC w A B l v b f g (w1.setCell ⟨w.heap.size + 1, 0, none⟩ (.float .f64 v)) := by
  obtain ⟨x0, x1, x2, x3, x4, x5, x6, x7, x8, x9, x10, x11, x12, x13, x14, x15, x16, x17, x18, x19⟩ := hyp
  have hB := x0.size
  obtain ⟨u3, s3⟩ := Option.isSome_iff_exists.1 x4
  obtain ⟨u4, s4⟩ := Option.isSome_iff_exists.1 x5
  obtain ⟨u5, s5⟩ := Option.isSome_iff_exists.1 x6
  have e6 : ¬ w.heap.size + 1 = A := by omega
  have d6 : ¬ A = w.heap.size + 1 := by omega
  have e7 : ¬ w.heap.size + 1 = B := by omega
  have d7 : ¬ B = w.heap.size + 1 := by omega
  refine ⟨x0.setCell (by show w.heap.size ≤ w.heap.size + 1; omega) _, ?_, ?_, ?_, ?_, ?_, ?_, ?_, ?_, ?_, ?_, ?_, ?_, ?_, ?_, ?_, ?_, x17, x18, by simpa using x19⟩
  all_goals (set_option linter.unusedSimpArgs false in simp [go_sem, x1, x2, x3, s3, s4, s5, x7, x8, x9, x10, x11, x12, x13, x14, x15, x16, e6, d6, e7, d7])
theorem LC.put2 {w : World} {A B l a b f g : Nat} {w1 : World} (hyp : LC w A B l a b f g w1) (v : Nat) : LC w A B l a v f g (w1.setCell ⟨w.heap.size + 1 + 1, 0, none⟩ (.float .f64 v)) := by
  obtain ⟨x0, x1, x2, x3, x4, x5, x6, x7, x8, x9, x10, x11, x12, x13, x14, x15, x16, x17, x18, x19⟩ := hyp
  have hB := x0.size
  obtain ⟨u3, s3⟩ := Option.isSome_iff_exists.1 x4
  obtain ⟨u4, s4⟩ := Option.isSome_iff_exists.1 x5
  obtain ⟨u5, s5⟩ := Option.isSome_iff_exists.1 x6
  have e6 : ¬ w.heap.size + 1 + 1 = A := by omega
  have d6 : ¬ A = w.heap.size + 1 + 1 := by omega
  have e7 : ¬ w.heap.size + 1 + 1 = B := by omega
  have d7 : ¬ B = w.heap.size + 1 + 1 := by omega
  refine ⟨x0.setCell (by show w.heap.size ≤ w.heap.size + 1 + 1; omega) _, ?_, ?_, ?_, ?_, ?_, ?_, ?_, ?_, ?_, ?_, ?_, ?_, ?_, ?_, ?_, ?_, x17, x18, by simpa using x19⟩
  all_goals (set_option linter.unusedSimpArgs false in simp [go_sem, x1, x2, x3, s3, s4, s5, x7, x8, x9, x10, x11, x12, x13, x14, x15, x16, e6, d6, e7, d7])
theorem LC.put3 {w : World} {A B l a b f g : Nat} {w1 : World} (hyp : LC w A B l a b f g w1) (v : Value) : LC w A B l a b f g (w1.setCell ⟨w.heap.size + 1 + 1 + 1, 0, none⟩ v) := by
  obtain ⟨x0, x1, x2, x3, x4, x5, x6, x7, x8, x9, x10, x11, x12, x13, x14, x15, x16, x17, x18, x19⟩ := hyp
  have hB := x0.size
  obtain ⟨u3, s3⟩ := Option.isSome_iff_exists.1 x4
  obtain ⟨u4, s4⟩ := Option.isSome_iff_exists.1 x5
  obtain ⟨u5, s5⟩ := Option.isSome_iff_exists.1 x6
  have e6 : ¬ w.heap.size + 1 + 1 + 1 = A := by omega
  have d6 : ¬ A = w.heap.size + 1 + 1 + 1 := by omega
  have e7 : ¬ w.heap.size + 1 + 1 + 1 = B := by omega
  have d7 : ¬ B = w.heap.size + 1 + 1 + 1 := by omega
  refine ⟨x0.setCell (by show w.heap.size ≤ w.heap.size + 1 + 1 + 1; omega) _, ?_, ?_, ?_, ?_, ?_, ?_, ?_, ?_, ?_, ?_, ?_, ?_, ?_, ?_, ?_, ?_, x17, x18, by simpa using x19⟩
  all_goals (set_option linter.unusedSimpArgs false in simp [go_sem, x1, x2, x3, s3, s4, s5, x7, x8, x9, x10, x11, x12, x13, x14, x15, x16, e6, d6, e7, d7])
theorem LC.put4 {w : World} {A B l a b f g : Nat} {w1 : World} (hyp : LC w A B l a b f g w1) (v : Value) : LC w A B l a b f g (w1.setCell ⟨w.heap.size + 1 + 1 + 1 + 1, 0, none⟩ v) := by
  obtain ⟨x0, x1, x2, x3, x4, x5, x6, x7, x8, x9, x10, x11, x12, x13, x14, x15, x16, x17, x18, x19⟩ := hyp
  have hB := x0.size
  obtain ⟨u3, s3⟩ := Option.isSome_iff_exists.1 x4
  obtain ⟨u4, s4⟩ := Option.isSome_iff_exists.1 x5
  obtain ⟨u5, s5⟩ := Option.isSome_iff_exists.1 x6
  have e6 : ¬ w.heap.size + 1 + 1 + 1 + 1 = A := by omega
  have d6 : ¬ A = w.heap.size + 1 + 1 + 1 + 1 := by omega
  have e7 : ¬ w.heap.size + 1 + 1 + 1 + 1 = B := by omega
  have d7 : ¬ B = w.heap.size + 1 + 1 + 1 + 1 := by omega
  refine ⟨x0.setCell (by show w.heap.size ≤ w.heap.size + 1 + 1 + 1 + 1; omega) _, ?_, ?_, ?_, ?_, ?_, ?_, ?_, ?_, ?_, ?_, ?_, ?_, ?_, ?_, ?_, ?_, x17, x18, by simpa using x19⟩
  all_goals (set_option linter.unusedSimpArgs false in simp [go_sem, x1, x2, x3, s3, s4, s5, x7, x8, x9, x10, x11, x12, x13, x14, x15, x16, e6, d6, e7, d7])
theorem LC.put5 {w : World} {A B l a b f g : Nat} {w1 : World} (hyp : LC w A B l a b f g w1) (v : Value) : LC w A B l a b f g (w1.setCell ⟨w.heap.size + 1 + 1 + 1 + 1 + 1, 0, none⟩ v) := by
  obtain ⟨x0, x1, x2, x3, x4, x5, x6, x7, x8, x9, x10, x11, x12, x13, x14, x15, x16, x17, x18, x19⟩ := hyp
  have hB := x0.size
  obtain ⟨u3, s3⟩ := Option.isSome_iff_exists.1 x4
  obtain ⟨u4, s4⟩ := Option.isSome_iff_exists.1 x5
  obtain ⟨u5, s5⟩ := Option.isSome_iff_exists.1 x6
  have e6 : ¬ w.heap.size + 1 + 1 + 1 + 1 + 1 = A := by omega
  have d6 : ¬ A = w.heap.size + 1 + 1 + 1 + 1 + 1 := by omega
  have e7 : ¬ w.heap.size + 1 + 1 + 1 + 1 + 1 = B := by omega
  have d7 : ¬ B = w.heap.size + 1 + 1 + 1 + 1 + 1 := by omega
  refine ⟨x0.setCell (by show w.heap.size ≤ w.heap.size + 1 + 1 + 1 + 1 + 1; omega) _, ?_, ?_, ?_, ?_, ?_, ?_, ?_, ?_, ?_, ?_, ?_, ?_, ?_, ?_, ?_, ?_, x17, x18, by simpa using x19⟩
  all_goals (set_option linter.unusedSimpArgs false in simp [go_sem, x1, x2, x3, s3, s4, s5, x7, x8, x9, x10, x11, x12, x13, x14, x15, x16, e6, d6, e7, d7])
theorem LC.put6 {w : World} {A B l a b f g : Nat} {w1 : World} (hyp : LC w A B l a b f g w1) (v : Nat) : LC w A B l a b v g (w1.setCell ⟨A, 0, none⟩ (.float .f64 v)) := by
  obtain ⟨x0, x1, x2, x3, x4, x5, x6, x7, x8, x9, x10, x11, x12, x13, x14, x15, x16, x17, x18, x19⟩ := hyp
  have hB := x0.size
  obtain ⟨u3, s3⟩ := Option.isSome_iff_exists.1 x4
  obtain ⟨u4, s4⟩ := Option.isSome_iff_exists.1 x5
  obtain ⟨u5, s5⟩ := Option.isSome_iff_exists.1 x6
  have e0 : ¬ A = w.heap.size := by omega
  have d0 : ¬ w.heap.size = A := by omega
  have e1 : ¬ A = w.heap.size + 1 := by omega
  have d1 : ¬ w.heap.size + 1 = A := by omega
  have e2 : ¬ A = w.heap.size + 1 + 1 := by omega
  have d2 : ¬ w.heap.size + 1 + 1 = A := by omega
  have e3 : ¬ A = w.heap.size + 1 + 1 + 1 := by omega
  have d3 : ¬ w.heap.size + 1 + 1 + 1 = A := by omega
  have e4 : ¬ A = w.heap.size + 1 + 1 + 1 + 1 := by omega
  have d4 : ¬ w.heap.size + 1 + 1 + 1 + 1 = A := by omega
  have e5 : ¬ A = w.heap.size + 1 + 1 + 1 + 1 + 1 := by omega
  have d5 : ¬ w.heap.size + 1 + 1 + 1 + 1 + 1 = A := by omega
  have e7 : ¬ A = B := by omega
  have d7 : ¬ B = A := by omega
  refine ⟨x0.setCell (by show w.heap.size ≤ A; omega) _, ?_, ?_, ?_, ?_, ?_, ?_, ?_, ?_, ?_, ?_, ?_, ?_, ?_, ?_, ?_, ?_, x17, x18, by simpa using x19⟩
  all_goals (set_option linter.unusedSimpArgs false in simp [go_sem, x1, x2, x3, s3, s4, s5, x7, x8, x9, x10, x11, x12, x13, x14, x15, x16, e0, d0, e1, d1, e2, d2, e3, d3, e4, d4, e5, d5, e7, d7])
theorem LC.put7 {w : World} {A B l a b f g : Nat} {w1 : World} (hyp : LC w A B l a b f g w1) (v : Nat) : LC w A B l a b f v (w1.setCell ⟨B, 0, none⟩ (.float .f64 v)) := by
  obtain ⟨x0, x1, x2, x3, x4, x5, x6, x7, x8, x9, x10, x11, x12, x13, x14, x15, x16, x17, x18, x19⟩ := hyp
  have hB := x0.size
  obtain ⟨u3, s3⟩ := Option.isSome_iff_exists.1 x4
  obtain ⟨u4, s4⟩ := Option.isSome_iff_exists.1 x5
  obtain ⟨u5, s5⟩ := Option.isSome_iff_exists.1 x6
  have e0 : ¬ B = w.heap.size := by omega
  have d0 : ¬ w.heap.size = B := by omega
  have e1 : ¬ B = w.heap.size + 1 := by omega
  have d1 : ¬ w.heap.size + 1 = B := by omega
  have e2 : ¬ B = w.heap.size + 1 + 1 := by omega
  have d2 : ¬ w.heap.size + 1 + 1 = B := by omega
  have e3 : ¬ B = w.heap.size + 1 + 1 + 1 := by omega
  have d3 : ¬ w.heap.size + 1 + 1 + 1 = B := by omega
  have e4 : ¬ B = w.heap.size + 1 + 1 + 1 + 1 := by omega
  have d4 : ¬ w.heap.size + 1 + 1 + 1 + 1 = B := by omega
  have e5 : ¬ B = w.heap.size + 1 + 1 + 1 + 1 + 1 := by omega
  have d5 : ¬ w.heap.size + 1 + 1 + 1 + 1 + 1 = B := by omega
  have e6 : ¬ B = A := by omega
  have d6 : ¬ A = B := by omega
  refine ⟨x0.setCell (by show w.heap.size ≤ B; omega) _, ?_, ?_, ?_, ?_, ?_, ?_, ?_, ?_, ?_, ?_, ?_, ?_, ?_, ?_, ?_, ?_, x17, x18, by simpa using x19⟩
  all_goals (set_option linter.unusedSimpArgs false in simp [go_sem, x1, x2, x3, s3, s4, s5, x7, x8, x9, x10, x11, x12, x13, x14, x15, x16, e0, d0, e1, d1, e2, d2, e3, d3, e4, d4, e5, d5, e6, d6])
theorem LC.above {w : World} {A B l a b f g : Nat} {w1 : World} {M0 : Nat} (hyp : LC w A B l a b f g w1) (hM : B < M0) (v : Value) : LC w A B l a b f g (w1.setCell ⟨M0, 0, none⟩ v) := by
  obtain ⟨x0, x1, x2, x3, x4, x5, x6, x7, x8, x9, x10, x11, x12, x13, x14, x15, x16, x17, x18, x19⟩ := hyp
  have hB := x0.size
  obtain ⟨u3, s3⟩ := Option.isSome_iff_exists.1 x4
  obtain ⟨u4, s4⟩ := Option.isSome_iff_exists.1 x5
  obtain ⟨u5, s5⟩ := Option.isSome_iff_exists.1 x6
  have e0 : ¬ M0 = w.heap.size := by omega
  have d0 : ¬ w.heap.size = M0 := by omega
  have e1 : ¬ M0 = w.heap.size + 1 := by omega
  have d1 : ¬ w.heap.size + 1 = M0 := by omega
  have e2 : ¬ M0 = w.heap.size + 1 + 1 := by omega
  have d2 : ¬ w.heap.size + 1 + 1 = M0 := by omega
  have e3 : ¬ M0 = w.heap.size + 1 + 1 + 1 := by omega
  have d3 : ¬ w.heap.size + 1 + 1 + 1 = M0 := by omega
  have e4 : ¬ M0 = w.heap.size + 1 + 1 + 1 + 1 := by omega
  have d4 : ¬ w.heap.size + 1 + 1 + 1 + 1 = M0 := by omega
  have e5 : ¬ M0 = w.heap.size + 1 + 1 + 1 + 1 + 1 := by omega
  have d5 : ¬ w.heap.size + 1 + 1 + 1 + 1 + 1 = M0 := by omega
  have e6 : ¬ M0 = A := by omega
  have d6 : ¬ A = M0 := by omega
  have e7 : ¬ M0 = B := by omega
  have d7 : ¬ B = M0 := by omega
  refine ⟨x0.setCell (by show w.heap.size ≤ M0; omega) _, ?_, ?_, ?_, ?_, ?_, ?_, ?_, ?_, ?_, ?_, ?_, ?_, ?_, ?_, ?_, ?_, x17, x18, by simpa using x19⟩
  all_goals (set_option linter.unusedSimpArgs false in simp [go_sem, x1, x2, x3, s3, s4, s5, x7, x8, x9, x10, x11, x12, x13, x14, x15, x16, e0, d0, e1, d1, e2, d2, e3, d3, e4, d4, e5, d5, e6, d6, e7, d7])
theorem LC.ex3 {w : World} {A B l a b f g : Nat} {w1 : World} (hyp : LC w A B l a b f g w1) : ∃ v, w1.cell? ⟨w.heap.size + 1 + 1 + 1, 0, none⟩ = Option.some v := Option.isSome_iff_exists.1 hyp.2.2.2.2.1
theorem LC.ex4 {w : World} {A B l a b f g : Nat} {w1 : World} (hyp : LC w A B l a b f g w1) : ∃ v, w1.cell? ⟨w.heap.size + 1 + 1 + 1 + 1, 0, none⟩ = Option.some v := Option.isSome_iff_exists.1 hyp.2.2.2.2.2.1
theorem LC.ex5 {w : World} {A B l a b f g : Nat} {w1 : World} (hyp : LC w A B l a b f g w1) : ∃ v, w1.cell? ⟨w.heap.size + 1 + 1 + 1 + 1 + 1, 0, none⟩ = Option.some v := Option.isSome_iff_exists.1 hyp.2.2.2.2.2.2.1
theorem LC.of {w : World} {A l a b f B g : Nat} {w1 : World} (hyp : LB w A l a b f w1) (h1 : w1.cell? ⟨B, 0, none⟩ = some (.float .f64 g)) (h2 : w1.frozen? ⟨B, 0, none⟩ = false) (h3 : A < B) (h4 : B < w1.heap.size) : LC w A B l a b f g w1 := by
  obtain ⟨x0, x1, x2, x3, x4, x5, x6, x7, x8, x9, x10, x11, x12, x13, x14, x15, x16⟩ := hyp
  exact ⟨x0, x1, x2, x3, x4, x5, x6, x7, h1, x8, x9, x10, x11, x12, x13, x14, h2, x15, h3, h4⟩
theorem LC.new {w : World} {A l a b f : Nat} {w1 : World} (hyp : LB w A l a b f w1) (t g : Nat) : LC w A w1.heap.size l a b f g (w1.alloc (.cells #[.float .f64 g] t)) :=
  LC.of (hyp.step ((Below.refl _ _).alloc (Nat.le_refl _) _)) (by simp [go_sem]) (by simp [go_sem]) (by have := hyp.2.2.2.2.2.2.2.2.2.2.2.2.2.2.2.2; exact this) (by simp)
theorem LB.alloc {w : World} {A l a b f : Nat} {w1 : World} {o : Obj} (hyp : LB w A l a b f w1) : LB w A l a b f (w1.alloc o) := hyp.step ((Below.refl _ _).alloc (Nat.le_refl _) _)
def LD (w : World) (A B C l a b f g k : Nat) (w' : World) : Prop :=
  Below w.heap.size w w' ∧ w'.cell? ⟨w.heap.size, 0, none⟩ = some (.float .f64 l) ∧ w'.cell? ⟨w.heap.size + 1, 0, none⟩ = some (.float .f64 a) ∧ w'.cell? ⟨w.heap.size + 1 + 1, 0, none⟩ = some (.float .f64 b) ∧ (w'.cell? ⟨w.heap.size + 1 + 1 + 1, 0, none⟩).isSome = true ∧ (w'.cell? ⟨w.heap.size + 1 + 1 + 1 + 1, 0, none⟩).isSome = true ∧ (w'.cell? ⟨w.heap.size + 1 + 1 + 1 + 1 + 1, 0, none⟩).isSome = true ∧ w'.cell? ⟨A, 0, none⟩ = some (.float .f64 f) ∧ w'.cell? ⟨B, 0, none⟩ = some (.float .f64 g) ∧ w'.cell? ⟨C, 0, none⟩ = some (.float .f64 k) ∧ w'.frozen? ⟨w.heap.size, 0, none⟩ = false ∧ w'.frozen? ⟨w.heap.size + 1, 0, none⟩ = false ∧ w'.frozen? ⟨w.heap.size + 1 + 1, 0, none⟩ = false ∧ w'.frozen? ⟨w.heap.size + 1 + 1 + 1, 0, none⟩ = false ∧ w'.frozen? ⟨w.heap.size + 1 + 1 + 1 + 1, 0, none⟩ = false ∧ w'.frozen? ⟨w.heap.size + 1 + 1 + 1 + 1 + 1, 0, none⟩ = false ∧ w'.frozen? ⟨A, 0, none⟩ = false ∧ w'.frozen? ⟨B, 0, none⟩ = false ∧ w'.frozen? ⟨C, 0, none⟩ = false ∧ w.heap.size + 1 + 1 + 1 + 1 + 1 < A ∧ A < B ∧ B < C ∧ C < w'.heap.size
theorem LD.step {w : World} {A B C l a b f g k : Nat} {w1 w2 : World} (hyp : LD w A B C l a b f g k w1) (hb : Below w1.heap.size w1 w2) : LD w A B C l a b f g k w2 := by
  obtain ⟨x0, x1, x2, x3, x4, x5, x6, x7, x8, x9, x10, x11, x12, x13, x14, x15, x16, x17, x18, x19, x20, x21, x22⟩ := hyp
  have hc : ∀ b o, b < w1.heap.size → w2.cell? ⟨b, o, none⟩ = w1.cell? ⟨b, o, none⟩ := fun b o h => hb.cell (p := ⟨b, o, none⟩) h
  have hf : ∀ b o, b < w1.heap.size → w2.frozen? ⟨b, o, none⟩ = w1.frozen? ⟨b, o, none⟩ := fun b o h => hb.frozen (p := ⟨b, o, none⟩) h
  have hz := hb.size
  have hB := x0.size
  exact ⟨x0.trans (hb.mono (by omega)), by rw [hc _ _ (by omega)]; exact x1, by rw [hc _ _ (by omega)]; exact x2, by rw [hc _ _ (by omega)]; exact x3, by rw [hc _ _ (by omega)]; exact x4, by rw [hc _ _ (by omega)]; exact x5, by rw [hc _ _ (by omega)]; exact x6, by rw [hc _ _ (by omega)]; exact x7, by rw [hc _ _ (by omega)]; exact x8, by rw [hc _ _ (by omega)]; exact x9, by rw [hf _ _ (by omega)]; exact x10, by rw [hf _ _ (by omega)]; exact x11, by rw [hf _ _ (by omega)]; exact x12, by rw [hf _ _ (by omega)]; exact x13, by rw [hf _ _ (by omega)]; exact x14, by rw [hf _ _ (by omega)]; exact x15, by rw [hf _ _ (by omega)]; exact x16, by rw [hf _ _ (by omega)]; exact x17, by rw [hf _ _ (by omega)]; exact x18, x19, x20, x21, by omega⟩
theorem LD.put0 {w : World} {A B C l a b f g k : Nat} {w1 : World} (hyp : LD w A B C l a b f g k w1) (v : Nat) : LD w A B C v a b f g k (w1.setCell ⟨w.heap.size, 0, none⟩ (.float .f64 v)) := by
  obtain ⟨x0, x1, x2, x3, x4, x5, x6, x7, x8, x9, x10, x11, x12, x13, x14, x15, x16, x17, x18, x19, x20, x21, x22⟩ := hyp
  have hB := x0.size
  obtain ⟨u3, s3⟩ := Option.isSome_iff_exists.1 x4
  obtain ⟨u4, s4⟩ := Option.isSome_iff_exists.1 x5
  obtain ⟨u5, s5⟩ := Option.isSome_iff_exists.1 x6
  have e6 : ¬ w.heap.size = A := by omega
  have d6 : ¬ A = w.heap.size := by omega
  have e7 : ¬ w.heap.size = B := by omega
  have d7 : ¬ B = w.heap.size := by omega
  have e8 : ¬ w.heap.size = C := by omega
  have d8 : ¬ C = w.heap.size := by omega
  refine ⟨x0.setCell (by show w.heap.size ≤ w.heap.size; omega) _, ?_, ?_, ?_, ?_, ?_, ?_, ?_, ?_, ?_, ?_, ?_, ?_, ?_, ?_, ?_, ?_, ?_, ?_, x19, x20, x21, by simpa using x22⟩
  all_goals (set_option linter.unusedSimpArgs false in simp [go_sem, x1, x2, x3, s3, s4, s5, x7, x8, x9, x10, x11, x12, x13, x14, x15, x16, x17, x18, e6, d6, e7, d7, e8, d8])
theorem LD.put1 {w : World} {A B C l a b f g k : Nat} {w1 : World} (hyp : LD w A B C l a b f g k w1) (v : Nat) : LD w A B C l v b f g k (w1.setCell ⟨w.heap.size + 1, 0, none⟩ (.float .f64 v)) := by
  obtain ⟨x0, x1, x2, x3, x4, x5, x6, x7, x8, x9, x10, x11, x12, x13, x14, x15, x16, x17, x18, x19, x20, x21, x22⟩ := hyp
  have hB := x0.size
  obtain ⟨u3, s3⟩ := Option.isSome_iff_exists.1 x4
  obtain ⟨u4, s4⟩ := Option.isSome_iff_exists.1 x5
  obtain ⟨u5, s5⟩ := Option.isSome_iff_exists.1 x6
  have e6 : ¬ w.heap.size + 1 = A := by omega
  have d6 : ¬ A = w.heap.size + 1 := by omega
  have e7 : ¬ w.heap.size + 1 = B := by omega
  have d7 : ¬ B = w.heap.size + 1 := by omega
  have e8 : ¬ w.heap.size + 1 = C := by omega
  have d8 : ¬ C = w.heap.size + 1 := by omega
  refine ⟨x0.setCell (by show w.heap.size ≤ w.heap.size + 1; omega) _, ?_, ?_, ?_, ?_, ?_, ?_, ?_, ?_, ?_, ?_, ?_, ?_, ?_, ?_, ?_, ?_, ?_, ?_, x19, x20, x21, by simpa using x22⟩
  all_goals (set_option linter.unusedSimpArgs false in simp [go_sem, x1, x2, x3, s3, s4, s5, x7, x8, x9, x10, x11, x12, x13, x14, x15, x16, x17, x18, e6, d6, e7, d7, e8, d8])
theorem LD.put2 {w : World} {A B C l a b f g k : Nat} {w1 : World} (hyp : LD w A B C l a b f g k w1) (v : Nat) : LD w A B C l a v f g k (w1.setCell ⟨w.heap.size + 1 + 1, 0, none⟩ (.float .f64 v)) := by
  obtain ⟨x0, x1, x2, x3, x4, x5, x6, x7, x8, x9, x10, x11, x12, x13, x14, x15, x16, x17, x18, x19, x20, x21, x22⟩ := hyp
  have hB := x0.size
  obtain ⟨u3, s3⟩ := Option.isSome_iff_exists.1 x4
  obtain ⟨u4, s4⟩ := Option.isSome_iff_exists.1 x5
  obtain ⟨u5, s5⟩ := Option.isSome_iff_exists.1 x6
  have e6 : ¬ w.heap.size + 1 + 1 = A := by omega
  have d6 : ¬ A = w.heap.size + 1 + 1 := by omega
  have e7 : ¬ w.heap.size + 1 + 1 = B := by omega
  have d7 : ¬ B = w.heap.size + 1 + 1 := by omega
  have e8 : ¬ w.heap.size + 1 + 1 = C := by omega
  have d8 : ¬ C = w.heap.size + 1 + 1 := by omega
  refine ⟨x0.setCell (by show w.heap.size ≤ w.heap.size + 1 + 1; omega) _, ?_, ?_, ?_, ?_, ?_, ?_, ?_, ?_, ?_, ?_, ?_, ?_, ?_, ?_, ?_, ?_, ?_, ?_, x19, x20, x21, by simpa using x22⟩
  all_goals (set_option linter.unusedSimpArgs false in simp [go_sem, x1, x2, x3, s3, s4, s5, x7, x8, x9, x10, x11, x12, x13, x14, x15, x16, x17, x18, e6, d6, e7, d7, e8, d8])
theorem LD.put3 {w : World} {A B C l a b f g k : Nat} {w1 : World} (hyp : LD w A B C l a b f g k w1) (v : Value) : LD w A B C l a b f g k (w1.setCell ⟨w.heap.size + 1 + 1 + 1, 0, none⟩ v) := by
  obtain ⟨x0, x1, x2, x3, x4, x5, x6, x7, x8, x9, x10, x11, x12, x13, x14, x15, x16, x17, x18, x19, x20, x21, x22⟩ := hyp
  have hB := x0.size
  obtain ⟨u3, s3⟩ := Option.isSome_iff_exists.1 x4
  obtain ⟨u4, s4⟩ := Option.isSome_iff_exists.1 x5
  obtain ⟨u5, s5⟩ := Option.isSome_iff_exists.1 x6
  have e6 : ¬ w.heap.size + 1 + 1 + 1 = A := by omega
  have d6 : ¬ A = w.heap.size + 1 + 1 + 1 := by omega
  have e7 : ¬ w.heap.size + 1 + 1 + 1 = B := by omega
  have d7 : ¬ B = w.heap.size + 1 + 1 + 1 := by omega
  have e8 : ¬ w.heap.size + 1 + 1 + 1 = C := by omega
  have d8 : ¬ C = w.heap.size + 1 + 1 + 1 := by omega
  refine ⟨x0.setCell (by show w.heap.size ≤ w.heap.size + 1 + 1 + 1; omega) _, ?_, ?_, ?_, ?_, ?_, ?_, ?_, ?_, ?_, ?_, ?_, ?_, ?_, ?_, ?_, ?_, ?_, ?_, x19, x20, x21, by simpa using x22⟩
  all_goals (set_option linter.unusedSimpArgs false in simp [go_sem, x1, x2, x3, s3, s4, s5, x7, x8, x9, x10, x11, x12, x13, x14, x15, x16, x17, x18, e6, d6, e7, d7, e8, d8])
theorem LD.put4 {w : World} {A B C l a b f g k : Nat} {w1 : World} (hyp : LD w A B C l a b f g k w1) (v : Value) : LD w A B C l a b f g k (w1.setCell ⟨w.heap.size + 1 + 1 + 1 + 1, 0, none⟩ v) := by
  obtain ⟨x0, x1, x2, x3, x4, x5, x6, x7, x8, x9, x10, x11, x12, x13, x14, x15, x16, x17, x18, x19, x20, x21, x22⟩ := hyp
  have hB := x0.size
  obtain ⟨u3, s3⟩ := Option.isSome_iff_exists.1 x4
  obtain ⟨u4, s4⟩ := Option.isSome_iff_exists.1 x5
  obtain ⟨u5, s5⟩ := Option.isSome_iff_exists.1 x6
  have e6 : ¬ w.heap.size + 1 + 1 + 1 + 1 = A := by omega
  have d6 : ¬ A = w.heap.size + 1 + 1 + 1 + 1 := by omega
  have e7 : ¬ w.heap.size + 1 + 1 + 1 + 1 = B := by omega
  have d7 : ¬ B = w.heap.size + 1 + 1 + 1 + 1 := by omega
  have e8 : ¬ w.heap.size + 1 + 1 + 1 + 1 = C := by omega
  have d8 : ¬ C = w.heap.size + 1 + 1 + 1 + 1 := by omega
  refine ⟨x0.setCell (by show w.heap.size ≤ w.heap.size + 1 + 1 + 1 + 1; omega) _, ?_, ?_, ?_, ?_, ?_, ?_, ?_, ?_, ?_, ?_, ?_, ?_, ?_, ?_, ?_, ?_, ?_, ?_, x19, x20, x21, by simpa using x22⟩
  all_goals (set_option linter.unusedSimpArgs false in simp [go_sem, x1, x2, x3, s3, s4, s5, x7, x8, x9, x10, x11, x12, x13, x14, x15, x16, x17, x18, e6, d6, e7, d7, e8, d8])
theorem LD.put5 {w : World} {A B C l a b f g k : Nat} {w1 : World} (hyp : LD w A B C l a b f g k w1) (v : Value) : LD w A B C l a b f g k (w1.setCell ⟨w.heap.size + 1 + 1 + 1 + 1 + 1, 0, none⟩ v) := by
  obtain ⟨x0, x1, x2, x3, x4, x5, x6, x7, x8, x9, x10, x11, x12, x13, x14, x15, x16, x17, x18, x19, x20, x21, x22⟩ := hyp
  have hB := x0.size
  obtain ⟨u3, s3⟩ := Option.isSome_iff_exists.1 x4
  obtain ⟨u4, s4⟩ := Option.isSome_iff_exists.1 x5
  obtain ⟨u5, s5⟩ := Option.isSome_iff_exists.1 x6
  have e6 : ¬ w.heap.size + 1 + 1 + 1 + 1 + 1 = A := by omega
  have d6 : ¬ A = w.heap.size + 1 + 1 + 1 + 1 + 1 := by omega
  have e7 : ¬ w.heap.size + 1 + 1 + 1 + 1 + 1 = B := by omega
  have d7 : ¬ B = w.heap.size + 1 + 1 + 1 + 1 + 1 := by omega
  have e8 : ¬ w.heap.size + 1 + 1 + 1 + 1 + 1 = C := by omega
  have d8 : ¬ C = w.heap.size + 1 + 1 + 1 + 1 + 1 := by omega
  refine ⟨x0.setCell (by show w.heap.size ≤ w.heap.size + 1 + 1 + 1 + 1 + 1; omega) _, ?_, ?_, ?_, ?_, ?_, ?_, ?_, ?_, ?_, ?_, ?_, ?_, ?_, ?_, ?_, ?_, ?_, ?_, x19, x20, x21, by simpa using x22⟩
  all_goals (set_option linter.unusedSimpArgs false in simp [go_sem, x1, x2, x3, s3, s4, s5, x7, x8, x9, x10, x11, x12, x13, x14, x15, x16, x17, x18, e6, d6, e7, d7, e8, d8])
theorem LD.put6 {w : World} {A B C l a b f g k : Nat} {w1 : World} (hyp : LD w A B C l a b f g k w1) (v : Nat) : LD w A B C l a b v g k (w1.setCell ⟨A, 0, none⟩ (.float .f64 v)) := by
  obtain ⟨x0, x1, x2, x3, x4, x5, x6, x7, x8, x9, x10, x11, x12, x13, x14, x15, x16, x17, x18, x19, x20, x21, x22⟩ := hyp
  have hB := x0.size
  obtain ⟨u3, s3⟩ := Option.isSome_iff_exists.1 x4
  obtain ⟨u4, s4⟩ := Option.isSome_iff_exists.1 x5
  obtain ⟨u5, s5⟩ := Option.isSome_iff_exists.1 x6
  have e0 : ¬ A = w.heap.size := by omega
  have d0 : ¬ w.heap.size = A := by omega
  have e1 : ¬ A = w.heap.size + 1 := by omega
  have d1 : ¬ w.heap.size + 1 = A := by omega
  have e2 : ¬ A = w.heap.size + 1 + 1 := by omega
  have d2 : ¬ w.heap.size + 1 + 1 = A := by omega
  have e3 : ¬ A = w.heap.size + 1 + 1 + 1 := by omega
  have d3 : ¬ w.heap.size + 1 + 1 + 1 = A := by omega
  have e4 : ¬ A = w.heap.size + 1 + 1 + 1 + 1 := by omega
  have d4 : ¬ w.heap.size + 1 + 1 + 1 + 1 = A := by omega
  have e5 : ¬ A = w.heap.size + 1 + 1 + 1 + 1 + 1 := by omega
  have d5 : ¬ w.heap.size + 1 + 1 + 1 + 1 + 1 = A := by omega
  have e7 : ¬ A = B := by omega
  have d7 : ¬ B = A := by omega
  have e8 : ¬ A = C := by omega
  have d8 : ¬ C = A := by omega
  refine ⟨x0.setCell (by show w.heap.size ≤ A; omega) _, ?_, ?_, ?_, ?_, ?_, ?_, ?_, ?_, ?_, ?_, ?_, ?_, ?_, ?_, ?_, ?_, ?_, ?_, x19, x20, x21, by simpa using x22⟩
  all_goals (set_option linter.unusedSimpArgs false in simp [go_sem, x1, x2, x3, s3, s4, s5, x7, x8, x9, x10, x11, x12, x13, x14, x15, x16, x17, x18, e0, d0, e1, d1, e2, d2, e3, d3, e4, d4, e5, d5, e7, d7, e8, d8])
theorem LD.put7 {w : World} {A B C l a b f g k : Nat} {w1 : World} (hyp : LD w A B C l a b f g k w1) (v : Nat) : LD w A B C l a b f v k (w1.setCell ⟨B, 0, none⟩ (.float .f64 v)) := by
  obtain ⟨x0, x1, x2, x3, x4, x5, x6, x7, x8, x9, x10, x11, x12, x13, x14, x15, x16, x17, x18, x19, x20, x21, x22⟩ := hyp
  have hB := x0.size
  obtain ⟨u3, s3⟩ := Option.isSome_iff_exists.1 x4
  obtain ⟨u4, s4⟩ := Option.isSome_iff_exists.1 x5
  obtain ⟨u5, s5⟩ := Option.isSome_iff_exists.1 x6
  have e0 : ¬ B = w.heap.size := by omega
  have d0 : ¬ w.heap.size = B := by omega
  have e1 : ¬ B = w.heap.size + 1 := by omega
  have d1 : ¬ w.heap.size + 1 = B := by omega
  have e2 : ¬ B = w.heap.size + 1 + 1 := by omega
  have d2 : ¬ w.heap.size + 1 + 1 = B := by omega
  have e3 : ¬ B = w.heap.size + 1 + 1 + 1 := by omega
  have d3 : ¬ w.heap.size + 1 + 1 + 1 = B := by omega
  have e4 : ¬ B = w.heap.size + 1 + 1 + 1 + 1 := by omega
  have d4 : ¬ w.heap.size + 1 + 1 + 1 + 1 = B := by omega
  have e5 : ¬ B = w.heap.size + 1 + 1 + 1 + 1 + 1 := by omega
  have d5 : ¬ w.heap.size + 1 + 1 + 1 + 1 + 1 = B := by omega
  have e6 : ¬ B = A := by omega
  have d6 : ¬ A = B := by omega
  have e8 : ¬ B = C := by omega
  have d8 : ¬ C = B := by omega
  refine ⟨x0.setCell (by show w.heap.size ≤ B; omega) _, ?_, ?_, ?_, ?_, ?_, ?_, ?_, ?_, ?_, ?_, ?_, ?_, ?_, ?_, ?_, ?_, ?_, ?_, x19, x20, x21, by simpa using x22⟩
  all_goals (set_option linter.unusedSimpArgs false in simp [go_sem, x1, x2, x3, s3, s4, s5, x7, x8, x9, x10, x11, x12, x13, x14, x15, x16, x17, x18, e0, d0, e1, d1, e2, d2, e3, d3, e4, d4, e5, d5, e6, d6, e8, d8])
theorem LD.put8 {w : World} {A B C l a b f g k : Nat} {w1 : World} (hyp : LD w A B C l a b f g k w1) (v : Nat) : LD w A B C l a b f g v (w1.setCell ⟨C, 0, none⟩ (.float .f64 v)) := by
  obtain ⟨x0, x1, x2, x3, x4, x5, x6, x7, x8, x9, x10, x11, x12, x13, x14, x15, x16, x17, x18, x19, x20, x21, x22⟩ := hyp
  have hB := x0.size
  obtain ⟨u3, s3⟩ := Option.isSome_iff_exists.1 x4
  obtain ⟨u4, s4⟩ := Option.isSome_iff_exists.1 x5
  obtain ⟨u5, s5⟩ := Option.isSome_iff_exists.1 x6
  have e0 : ¬ C = w.heap.size := by omega
  have d0 : ¬ w.heap.size = C := by omega
  have e1 : ¬ C = w.heap.size + 1 := by omega
  have d1 : ¬ w.heap.size + 1 = C := by omega
  have e2 : ¬ C = w.heap.size + 1 + 1 := by omega
  have d2 : ¬ w.heap.size + 1 + 1 = C := by omega
  have e3 : ¬ C = w.heap.size + 1 + 1 + 1 := by omega
  have d3 : ¬ w.heap.size + 1 + 1 + 1 = C := by omega
  have e4 : ¬ C = w.heap.size + 1 + 1 + 1 + 1 := by omega
  have d4 : ¬ w.heap.size + 1 + 1 + 1 + 1 = C := by omega
  have e5 : ¬ C = w.heap.size + 1 + 1 + 1 + 1 + 1 := by omega
  have d5 : ¬ w.heap.size + 1 + 1 + 1 + 1 + 1 = C := by omega
  have e6 : ¬ C = A := by omega
  have d6 : ¬ A = C := by omega
  have e7 : ¬ C = B := by omega
  have d7 : ¬ B = C := by omega
  refine ⟨x0.setCell (by show w.heap.size ≤ C; omega) _, ?_, ?_, ?_, ?_, ?_, ?_, ?_, ?_, ?_, ?_, ?_, ?_, ?_, ?_, ?_, ?_, ?_, ?_, x19, x20, x21, by simpa using x22⟩
  all_goals (set_option linter.unusedSimpArgs false in simp [go_sem, x1, x2, x3, s3, s4, s5, x7, x8, x9, x10, x11, x12, x13, x14, x15, x16, x17, x18, e0, d0, e1, d1, e2, d2, e3, d3, e4, d4, e5, d5, e6, d6, e7, d7])
theorem LD.above {w : World} {A B C l a b f g k : Nat} {w1 : World} {M0 : Nat} (hyp : LD w A B C l a b f g k w1) (hM : C < M0) (v : Value) : LD w A B C l a b f g k (w1.setCell ⟨M0, 0, none⟩ v) := by
  obtain ⟨x0, x1, x2, x3, x4, x5, x6, x7, x8, x9, x10, x11, x12, x13, x14, x15, x16, x17, x18, x19, x20, x21, x22⟩ := hyp
  have hB := x0.size
  obtain ⟨u3, s3⟩ := Option.isSome_iff_exists.1 x4
  obtain ⟨u4, s4⟩ := Option.isSome_iff_exists.1 x5
  obtain ⟨u5, s5⟩ := Option.isSome_iff_exists.1 x6
  have e0 : ¬ M0 = w.heap.size := by omega
  have d0 : ¬ w.heap.size = M0 := by omega
  have e1 : ¬ M0 = w.heap.size + 1 := by omega
  have d1 : ¬ w.heap.size + 1 = M0 := by omega
  have e2 : ¬ M0 = w.heap.size + 1 + 1 := by omega
  have d2 : ¬ w.heap.size + 1 + 1 = M0 := by omega
  have e3 : ¬ M0 = w.heap.size + 1 + 1 + 1 := by omega
  have d3 : ¬ w.heap.size + 1 + 1 + 1 = M0 := by omega
  have e4 : ¬ M0 = w.heap.size + 1 + 1 + 1 + 1 := by omega
  have d4 : ¬ w.heap.size + 1 + 1 + 1 + 1 = M0 := by omega
  have e5 : ¬ M0 = w.heap.size + 1 + 1 + 1 + 1 + 1 := by omega
  have d5 : ¬ w.heap.size + 1 + 1 + 1 + 1 + 1 = M0 := by omega
  have e6 : ¬ M0 = A := by omega
  have d6 : ¬ A = M0 := by omega
  have e7 : ¬ M0 = B := by omega
  have d7 : ¬ B = M0 := by omega
  have e8 : ¬ M0 = C := by omega
  have d8 : ¬ C = M0 := by omega
  refine ⟨x0.setCell (by show w.heap.size ≤ M0; omega) _, ?_, ?_, ?_, ?_, ?_, ?_, ?_, ?_, ?_, ?_, ?_, ?_, ?_, ?_, ?_, ?_, ?_, ?_, x19, x20, x21, by simpa using x22⟩
  all_goals (set_option linter.unusedSimpArgs false in simp [go_sem, x1, x2, x3, s3, s4, s5, x7, x8, x9, x10, x11, x12, x13, x14, x15, x16, x17, x18, e0, d0, e1, d1, e2, d2, e3, d3, e4, d4, e5, d5, e6, d6, e7, d7, e8, d8])
theorem LD.ex3 {w : World} {A B C l a b f g k : Nat} {w1 : World} (hyp : LD w A B C l a b f g k w1) : ∃ v, w1.cell? ⟨w.heap.size + 1 + 1 + 1, 0, none⟩ = Option.some v := Option.isSome_iff_exists.1 hyp.2.2.2.2.1
theorem LD.ex4 {w : World} {A B C l a b f g k : Nat} {w1 : World} (hyp : LD w A B C l a b f g k w1) : ∃ v, w1.cell? ⟨w.heap.size + 1 + 1 + 1 + 1, 0, none⟩ = Option.some v := Option.isSome_iff_exists.1 hyp.2.2.2.2.2.1
theorem LD.ex5 {w : World} {A B C l a b f g k : Nat} {w1 : World} (hyp : LD w A B C l a b f g k w1) : ∃ v, w1.cell? ⟨w.heap.size + 1 + 1 + 1 + 1 + 1, 0, none⟩ = Option.some v := Option.isSome_iff_exists.1 hyp.2.2.2.2.2.2.1
theorem LD.of {w : World} {A B l a b f g C k : Nat} {w1 : World} (hyp : LC w A B l a b f g w1) (h1 : w1.cell? ⟨C, 0, none⟩ = some (.float .f64 k)) (h2 : w1.frozen? ⟨C, 0, none⟩ = false) (h3 : B < C) (h4 : C < w1.heap.size) : LD w A B C l a b f g k w1 := by
  obtain ⟨x0, x1, x2, x3, x4, x5, x6, x7, x8, x9, x10, x11, x12, x13, x14, x15, x16, x17, x18, x19⟩ := hyp
  exact ⟨x0, x1, x2, x3, x4, x5, x6, x7, x8, h1, x9, x10, x11, x12, x13, x14, x15, x16, h2, x17, x18, h3, h4⟩
theorem LD.new {w : World} {A B l a b f g : Nat} {w1 : World} (hyp : LC w A B l a b f g w1) (t k : Nat) : LD w A B w1.heap.size l a b f g k (w1.alloc (.cells #[.float .f64 k] t)) :=
  LD.of (hyp.step ((Below.refl _ _).alloc (Nat.le_refl _) _)) (by simp [go_sem]) (by simp [go_sem]) (by have := hyp.2.2.2.2.2.2.2.2.2.2.2.2.2.2.2.2.2.2.2; exact this) (by simp)
theorem LC.alloc {w : World} {A B l a b f g : Nat} {w1 : World} {o : Obj} (hyp : LC w A B l a b f g w1) : LC w A B l a b f g (w1.alloc o) := hyp.step ((Below.refl _ _).alloc (Nat.le_refl _) _)
def LE (w : World) (A B C D l a b f g k c : Nat) (w' : World) : Prop :=
  Below w.heap.size w w' ∧ w'.cell? ⟨w.heap.size, 0, none⟩ = some (.float .f64 l) ∧ w'.cell? ⟨w.heap.size + 1, 0, none⟩ = some (.float .f64 a) ∧ w'.cell? ⟨w.heap.size + 1 + 1, 0, none⟩ = some (.float .f64 b) ∧ (w'.cell? ⟨w.heap.size + 1 + 1 + 1, 0, none⟩).isSome = true ∧ (w'.cell? ⟨w.heap.size + 1 + 1 + 1 + 1, 0, none⟩).isSome = true ∧ (w'.cell? ⟨w.heap.size + 1 + 1 + 1 + 1 + 1, 0, none⟩).isSome = true ∧ w'.cell? ⟨A, 0, none⟩ = some (.float .f64 f) ∧ w'.cell? ⟨B, 0, none⟩ = some (.float .f64 g) ∧ w'.cell? ⟨C, 0, none⟩ = some (.float .f64 k) ∧ w'.cell? ⟨D, 0, none⟩ = some (.float .f64 c) ∧ w'.frozen? ⟨w.heap.size, 0, none⟩ = false ∧ w'.frozen? ⟨w.heap.size + 1, 0, none⟩ = false ∧ w'.frozen? ⟨w.heap.size + 1 + 1, 0, none⟩ = false ∧ w'.frozen? ⟨w.heap.size + 1 + 1 + 1, 0, none⟩ = false ∧ w'.frozen? ⟨w.heap.size + 1 + 1 + 1 + 1, 0, none⟩ = false ∧ w'.frozen? ⟨w.heap.size + 1 + 1 + 1 + 1 + 1, 0, none⟩ = false ∧ w'.frozen? ⟨A, 0, none⟩ = false ∧ w'.frozen? ⟨B, 0, none⟩ = false ∧ w'.frozen? ⟨C, 0, none⟩ = false ∧ w'.frozen? ⟨D, 0, none⟩ = false ∧ w.heap.size + 1 + 1 + 1 + 1 + 1 < A ∧ A < B ∧ B < C ∧ C < D ∧ D < w'.heap.size
theorem LE.step {w : World} {A B C D l a b f g k c : Nat} {w1 w2 : World} (hyp : LE w A B C D l a b f g k c w1) (hb : Below w1.heap.size w1 w2) : LE w A B C D l a b f g k c w2 := by
  obtain ⟨x0, x1, x2, x3, x4, x5, x6, x7, x8, x9, x10, x11, x12, x13, x14, x15, x16, x17, x18, x19, x20, x21, x22, x23, x24, x25⟩ := hyp
  have hc : ∀ b o, b < w1.heap.size → w2.cell? ⟨b, o, none⟩ = w1.cell? ⟨b, o, none⟩ := fun b o h => hb.cell (p := ⟨b, o, none⟩) h
  have hf : ∀ b o, b < w1.heap.size → w2.frozen? ⟨b, o, none⟩ = w1.frozen? ⟨b, o, none⟩ := fun b o h => hb.frozen (p := ⟨b, o, none⟩) h
  have hz := hb.size
  have hB := x0.size
  exact ⟨x0.trans (hb.mono (by omega)), by rw [hc _ _ (by omega)]; exact x1, by rw [hc _ _ (by omega)]; exact x2, by rw [hc _ _ (by omega)]; exact x3, by rw [hc _ _ (by omega)]; exact x4, by rw [hc _ _ (by omega)]; exact x5, by rw [hc _ _ (by omega)]; exact x6, by rw [hc _ _ (by omega)]; exact x7, by rw [hc _ _ (by omega)]; exact x8, by rw [hc _ _ (by omega)]; exact x9, by rw [hc _ _ (by omega)]; exact x10, by rw [hf _ _ (by omega)]; exact x11, by rw [hf _ _ (by omega)]; exact x12, by rw [hf _ _ (by omega)]; exact x13, by rw [hf _ _ (by omega)]; exact x14, by rw [hf _ _ (by omega)]; exact x15, by rw [hf _ _ (by omega)]; exact x16, by rw [hf _ _ (by omega)]; exact x17, by rw [hf _ _ (by omega)]; exact x18, by rw [hf _ _ (by omega)]; exact x19, by rw [hf _ _ (by omega)]; exact x20, x21, x22, x23, x24, by omega⟩
theorem LE.put0 {w : World} {A B C D l a b f g k c : Nat} {w1 : World} (hyp : LE w A B C D l a b f g k c w1) (v : Nat) : LE w A B C D v a b f g k c (w1.setCell ⟨w.heap.size, 0, none⟩ (.float .f64 v)) := by
  obtain ⟨x0, x1, x2, x3, x4, x5, x6, x7, x8, x9, x10, x11, x12, x13, x14, x15, x16, x17, x18, x19, x20, x21, x22, x23, x24, x25⟩ := hyp
  have hB := x0.size
  obtain ⟨u3, s3⟩ := Option.isSome_iff_exists.1 x4
  obtain ⟨u4, s4⟩ := Option.isSome_iff_exists.1 x5
  obtain ⟨u5, s5⟩ := Option.isSome_iff_exists.1 x6
  have e6 : ¬ w.heap.size = A := by omega
  have d6 : ¬ A = w.heap.size := by omega
  have e7 : ¬ w.heap.size = B := by omega
  have d7 : ¬ B = w.heap.size := by omega
  have e8 : ¬ w.heap.size = C := by omega
  have d8 : ¬ C = w.heap.size := by omega
  have e9 : ¬ w.heap.size = D := by omega
  have d9 : ¬ D = w.heap.size := by omega
  refine ⟨x0.setCell (by show w.heap.size ≤ w.heap.size; omega) _, ?_, ?_, ?_, ?_, ?_, ?_, ?_, ?_, ?_, ?_, ?_, ?_, ?_, ?_, ?_, ?_, ?_, ?_, ?_, ?_, x21, x22, x23, x24, by simpa using x25⟩
  all_goals (set_option linter.unusedSimpArgs false in simp [go_sem, x1, x2, x3, s3, s4, s5, x7, x8, x9, x10, x11, x12, x13, x14, x15, x16, x17, x18, x19, x20, e6, d6, e7, d7, e8, d8, e9, d9])
theorem LE.put1 {w : World} {A B C D l a b f g k c : Nat} {w1 : World} (hyp : LE w A B C D l a b f g k c w1) (v : Nat) : LE w A B C D l v b f g k c (w1.setCell ⟨w.heap.size + 1, 0, none⟩ (.float .f64 v)) := by
  obtain ⟨x0, x1, x2, x3, x4, x5, x6, x7, x8, x9, x10, x11, x12, x13, x14, x15, x16, x17, x18, x19, x20, x21, x22, x23, x24, x25⟩ := hyp
  have hB := x0.size
  obtain ⟨u3, s3⟩ := Option.isSome_iff_exists.1 x4
  obtain ⟨u4, s4⟩ := Option.isSome_iff_exists.1 x5
  obtain ⟨u5, s5⟩ := Option.isSome_iff_exists.1 x6
  have e6 : ¬ w.heap.size + 1 = A := by omega
  have d6 : ¬ A = w.heap.size + 1 := by omega
  have e7 : ¬ w.heap.size + 1 = B := by omega
  have d7 : ¬ B = w.heap.size + 1 := by omega
  have e8 : ¬ w.heap.size + 1 = C := by omega
  have d8 : ¬ C = w.heap.size + 1 := by omega
  have e9 : ¬ w.heap.size + 1 = D := by omega
  have d9 : ¬ D = w.heap.size + 1 := by omega
  refine ⟨x0.setCell (by show w.heap.size ≤ w.heap.size + 1; omega) _, ?_, ?_, ?_, ?_, ?_, ?_, ?_, ?_, ?_, ?_, ?_, ?_, ?_, ?_, ?_, ?_, ?_, ?_, ?_, ?_, x21, x22, x23, x24, by simpa using x25⟩
  all_goals (set_option linter.unusedSimpArgs false in simp [go_sem, x1, x2, x3, s3, s4, s5, x7, x8, x9, x10, x11, x12, x13, x14, x15, x16, x17, x18, x19, x20, e6, d6, e7, d7, e8, d8, e9, d9])
theorem LE.put2 {w : World} {A B C D l a b f g k c : Nat} {w1 : World} (hyp : LE w A B C D l a b f g k c w1) (v : Nat) : LE w A B C D l a v f g k c (w1.setCell ⟨w.heap.size + 1 + 1, 0, none⟩ (.float .f64 v)) := by
  obtain ⟨x0, x1, x2, x3, x4, x5, x6, x7, x8, x9, x10, x11, x12, x13, x14, x15, x16, x17, x18, x19, x20, x21, x22, x23, x24, x25⟩ := hyp
  have hB := x0.size
  obtain ⟨u3, s3⟩ := Option.isSome_iff_exists.1 x4
  obtain ⟨u4, s4⟩ := Option.isSome_iff_exists.1 x5
  obtain ⟨u5, s5⟩ := Option.isSome_iff_exists.1 x6
  have e6 : ¬ w.heap.size + 1 + 1 = A := by omega
  have d6 : ¬ A = w.heap.size + 1 + 1 := by omega
  have e7 : ¬ w.heap.size + 1 + 1 = B := by omega
  have d7 : ¬ B = w.heap.size + 1 + 1 := by omega
  have e8 : ¬ w.heap.size + 1 + 1 = C := by omega
  have d8 : ¬ C = w.heap.size + 1 + 1 := by omega
  have e9 : ¬ w.heap.size + 1 + 1 = D := by omega
  have d9 : ¬ D = w.heap.size + 1 + 1 := by omega
  refine ⟨x0.setCell (by show w.heap.size ≤ w.heap.size + 1 + 1; omega) _, ?_, ?_, ?_, ?_, ?_, ?_, ?_, ?_, ?_, ?_, ?_, ?_, ?_, ?_, ?_, ?_, ?_, ?_, ?_, ?_, x21, x22, x23, x24, by simpa using x25⟩
  all_goals (set_option linter.unusedSimpArgs false in simp [go_sem, x1, x2, x3, s3, s4, s5, x7, x8, x9, x10, x11, x12, x13, x14, x15, x16, x17, x18, x19, x20, e6, d6, e7, d7, e8, d8, e9, d9])
theorem LE.put3 {w : World} {A B C D l a b f g k c : Nat} {w1 : World} (hyp : LE w A B C D l a b f g k c w1) (v : Value) : LE w A B C D l a b f g k c (w1.setCell ⟨w.heap.size + 1 + 1 + 1, 0, none⟩ v) := by
  obtain ⟨x0, x1, x2, x3, x4, x5, x6, x7, x8, x9, x10, x11, x12, x13, x14, x15, x16, x17, x18, x19, x20, x21, x22, x23, x24, x25⟩ := hyp
  have hB := x0.size
  obtain ⟨u3, s3⟩ := Option.isSome_iff_exists.1 x4
  obtain ⟨u4, s4⟩ := Option.isSome_iff_exists.1 x5
  obtain ⟨u5, s5⟩ := Option.isSome_iff_exists.1 x6
  have e6 : ¬ w.heap.size + 1 + 1 + 1 = A := by omega
  have d6 : ¬ A = w.heap.size + 1 + 1 + 1 := by omega
  have e7 : ¬ w.heap.size + 1 + 1 + 1 = B := by omega
  have d7 : ¬ B = w.heap.size + 1 + 1 + 1 := by omega
  have e8 : ¬ w.heap.size + 1 + 1 + 1 = C := by omega
  have d8 : ¬ C = w.heap.size + 1 + 1 + 1 := by omega
  have e9 : ¬ w.heap.size + 1 + 1 + 1 = D := by omega
  have d9 : ¬ D = w.heap.size + 1 + 1 + 1 := by omega
  refine ⟨x0.setCell (by show w.heap.size ≤ w.heap.size + 1 + 1 + 1; omega) _, ?_, ?_, ?_, ?_, ?_, ?_, ?_, ?_, ?_, ?_, ?_, ?_, ?_, ?_, ?_, ?_, ?_, ?_, ?_, ?_, x21, x22, x23, x24, by simpa using x25⟩
  all_goals (set_option linter.unusedSimpArgs false in simp [go_sem, x1, x2, x3, s3, s4, s5, x7, x8, x9, x10, x11, x12, x13, x14, x15, x16, x17, x18, x19, x20, e6, d6, e7, d7, e8, d8, e9, d9])
theorem LE.put4 {w : World} {A B C D l a b f g k c : Nat} {w1 : World} (hyp : LE w A B C D l a b f g k c w1) (v : Value) : LE w A B C D l a b f g k c (w1.setCell ⟨w.heap.size + 1 + 1 + 1 + 1, 0, none⟩ v) := by
  obtain ⟨x0, x1, x2, x3, x4, x5, x6, x7, x8, x9, x10, x11, x12, x13, x14, x15, x16, x17, x18, x19, x20, x21, x22, x23, x24, x25⟩ := hyp
  have hB := x0.size
  obtain ⟨u3, s3⟩ := Option.isSome_iff_exists.1 x4
  obtain ⟨u4, s4⟩ := Option.isSome_iff_exists.1 x5
  obtain ⟨u5, s5⟩ := Option.isSome_iff_exists.1 x6
  have e6 : ¬ w.heap.size + 1 + 1 + 1 + 1 = A := by omega
  have d6 : ¬ A = w.heap.size + 1 + 1 + 1 + 1 := by omega
  have e7 : ¬ w.heap.size + 1 + 1 + 1 + 1 = B := by omega
  have d7 : ¬ B = w.heap.size + 1 + 1 + 1 + 1 := by omega
  have e8 : ¬ w.heap.size + 1 + 1 + 1 + 1 = C := by omega
  have d8 : ¬ C = w.heap.size + 1 + 1 + 1 + 1 := by omega
  have e9 : ¬ w.heap.size + 1 + 1 + 1 + 1 = D := by omega
  have d9 : ¬ D = w.heap.size + 1 + 1 + 1 + 1 := by omega
  refine ⟨x0.setCell (by show w.heap.size ≤ w.heap.size + 1 + 1 + 1 + 1; omega) _, ?_, ?_, ?_, ?_, ?_, ?_, ?_, ?_, ?_, ?_, ?_, ?_, ?_, ?_, ?_, ?_, ?_, ?_, ?_, ?_, x21, x22, x23, x24, by simpa using x25⟩
  all_goals (set_option linter.unusedSimpArgs false in simp [go_sem, x1, x2, x3, s3, s4, s5, x7, x8, x9, x10, x11, x12, x13, x14, x15, x16, x17, x18, x19, x20, e6, d6, e7, d7, e8, d8, e9, d9])
theorem LE.put5 {w : World} {A B C D l a b f g k c : Nat} {w1 : World} (hyp : LE w A B C D l a b f g k c w1) (v : Value) : LE w A B C D l a b f g k c (w1.setCell ⟨w.heap.size + 1 + 1 + 1 + 1 + 1, 0, none⟩ v) := by
  obtain ⟨x0, x1, x2, x3, x4, x5, x6, x7, x8, x9, x10, x11, x12, x13, x14, x15, x16, x17, x18, x19, x20, x21, x22, x23, x24, x25⟩ := hyp
  have hB := x0.size
  obtain ⟨u3, s3⟩ := Option.isSome_iff_exists.1 x4
  obtain ⟨u4, s4⟩ := Option.isSome_iff_exists.1 x5
  obtain ⟨u5, s5⟩ := Option.isSome_iff_exists.1 x6
  have e6 : ¬ w.heap.size + 1 + 1 + 1 + 1 + 1 = A := by omega
  have d6 : ¬ A = w.heap.size + 1 + 1 + 1 + 1 + 1 := by omega
  have e7 : ¬ w.heap.size + 1 + 1 + 1 + 1 + 1 = B := by omega
  have d7 : ¬ B = w.heap.size + 1 + 1 + 1 + 1 + 1 := by omega
  have e8 : ¬ w.heap.size + 1 + 1 + 1 + 1 + 1 = C := by omega
  have d8 : ¬ C = w.heap.size + 1 + 1 + 1 + 1 + 1 := by omega
  have e9 : ¬ w.heap.size + 1 + 1 + 1 + 1 + 1 = D := by omega
  have d9 : ¬ D = w.heap.size + 1 + 1 + 1 + 1 + 1 := by omega
  refine ⟨x0.setCell (by show w.heap.size ≤ w.heap.size + 1 + 1 + 1 + 1 + 1; omega) _, ?_, ?_, ?_, ?_, ?_, ?_, ?_, ?_, ?_, ?_, ?_, ?_, ?_, ?_, ?_, ?_, ?_, ?_, ?_, ?_, x21, x22, x23, x24, by simpa using x25⟩
  all_goals (set_option linter.unusedSimpArgs false in simp [go_sem, x1, x2, x3, s3, s4, s5, x7, x8, x9, x10, x11, x12, x13, x14, x15, x16, x17, x18, x19, x20, e6, d6, e7, d7, e8, d8, e9, d9])
theorem LE.put6 {w : World} {A B C D l a b f g k c : Nat} {w1 : World} (hyp : LE w A B C D l a b f g k c w1) (v : Nat) : LE w A B C D l a b v g k c (w1.setCell ⟨A, 0, none⟩ (.float .f64 v)) := by
  obtain ⟨x0, x1, x2, x3, x4, x5, x6, x7, x8, x9, x10, x11, x12, x13, x14, x15, x16, x17, x18, x19, x20, x21, x22, x23, x24, x25⟩ := hyp
  have hB := x0.size
  obtain ⟨u3, s3⟩ := Option.isSome_iff_exists.1 x4
  obtain ⟨u4, s4⟩ := Option.isSome_iff_exists.1 x5
  obtain ⟨u5, s5⟩ := Option.isSome_iff_exists.1 x6
  have e0 : ¬ A = w.heap.size := by omega
  have d0 : ¬ w.heap.size = A := by omega
  have e1 : ¬ A = w.heap.size + 1 := by omega
  have d1 : ¬ w.heap.size + 1 = A := by omega
  have e2 : ¬ A = w.heap.size + 1 + 1 := by omega
  have d2 : ¬ w.heap.size + 1 + 1 = A := by omega
  have e3 : ¬ A = w.heap.size + 1 + 1 + 1 := by omega
  have d3 : ¬ w.heap.size + 1 + 1 + 1 = A := by omega
  have e4 : ¬ A = w.heap.size + 1 + 1 + 1 + 1 := by omega
  have d4 : ¬ w.heap.size + 1 + 1 + 1 + 1 = A := by omega
  have e5 : ¬ A = w.heap.size + 1 + 1 + 1 + 1 + 1 := by omega
  have d5 : ¬ w.heap.size + 1 + 1 + 1 + 1 + 1 = A := by omega
  have e7 : ¬ A = B := by omega
  have d7 : ¬ B = A := by omega
  have e8 : ¬ A = C := by omega
  have d8 : ¬ C = A := by omega
  have e9 : ¬ A = D := by omega
  have d9 : ¬ D = A := by omega
  refine ⟨x0.setCell (by show w.heap.size ≤ A; omega) _, ?_, ?_, ?_, ?_, ?_, ?_, ?_, ?_, ?_, ?_, ?_, ?_, ?_, ?_, ?_, ?_, ?_, ?_, ?_, ?_, x21, x22, x23, x24, by simpa using x25⟩
  all_goals (set_option linter.unusedSimpArgs false in simp [go_sem, x1, x2, x3, s3, s4, s5, x7, x8, x9, x10, x11, x12, x13, x14, x15, x16, x17, x18, x19, x20, e0, d0, e1, d1, e2, d2, e3, d3, e4, d4, e5, d5, e7, d7, e8, d8, e9, d9])
theorem LE.put7 {w : World} {A B C D l a b f g k c : Nat} {w1 : World} (hyp : LE w A B C D l a b f g k c w1) (v : Nat) : LE w A B C D l a b f v k c (w1.setCell ⟨B, 0, none⟩ (.float .f64 v)) := by
  obtain ⟨x0, x1, x2, x3, x4, x5, x6, x7, x8, x9, x10, x11, x12, x13, x14, x15, x16, x17, x18, x19, x20, x21, x22, x23, x24, x25⟩ := hyp
  have hB := x0.size
  obtain ⟨u3, s3⟩ := Option.isSome_iff_exists.1 x4
  obtain ⟨u4, s4⟩ := Option.isSome_iff_exists.1 x5
  obtain ⟨u5, s5⟩ := Option.isSome_iff_exists.1 x6
  have e0 : ¬ B = w.heap.size := by omega
  have d0 : ¬ w.heap.size = B := by omega
  have e1 : ¬ B = w.heap.size + 1 := by omega
  have d1 : ¬ w.heap.size + 1 = B := by omega
  have e2 : ¬ B = w.heap.size + 1 + 1 := by omega
  have d2 : ¬ w.heap.size + 1 + 1 = B := by omega
  have e3 : ¬ B = w.heap.size + 1 + 1 + 1 := by omega
  have d3 : ¬ w.heap.size + 1 + 1 + 1 = B := by omega
  have e4 : ¬ B = w.heap.size + 1 + 1 + 1 + 1 := by omega
  have d4 : ¬ w.heap.size + 1 + 1 + 1 + 1 = B := by omega
  have e5 : ¬ B = w.heap.size + 1 + 1 + 1 + 1 + 1 := by omega
  have d5 : ¬ w.heap.size + 1 + 1 + 1 + 1 + 1 = B := by omega
  have e6 : ¬ B = A := by omega
  have d6 : ¬ A = B := by omega
  have e8 : ¬ B = C := by omega
  have d8 : ¬ C = B := by omega
  have e9 : ¬ B = D := by omega
  have d9 : ¬ D = B := by omega
  refine ⟨x0.setCell (by show w.heap.size ≤ B; omega) _, ?_, ?_, ?_, ?_, ?_, ?_, ?_, ?_, ?_, ?_, ?_, ?_, ?_, ?_, ?_, ?_, ?_, ?_, ?_, ?_, x21, x22, x23, x24, by simpa using x25⟩
  all_goals (set_option linter.unusedSimpArgs false in simp [go_sem, x1, x2, x3, s3, s4, s5, x7, x8, x9, x10, x11, x12, x13, x14, x15, x16, x17, x18, x19, x20, e0, d0, e1, d1, e2, d2, e3, d3, e4, d4, e5, d5, e6, d6, e8, d8, e9, d9])
theorem LE.put8 {w : World} {A B C D l a b f g k c : Nat} {w1 : World} (hyp : LE w A B C D l a b f g k c w1) (v : Nat) : LE w A B C D l a b f g v c (w1.setCell ⟨C, 0, none⟩ (.float .f64 v)) := by
  obtain ⟨x0, x1, x2, x3, x4, x5, x6, x7, x8, x9, x10, x11, x12, x13, x14, x15, x16, x17, x18, x19, x20, x21, x22, x23, x24, x25⟩ := hyp
  have hB := x0.size
  obtain ⟨u3, s3⟩ := Option.isSome_iff_exists.1 x4
  obtain ⟨u4, s4⟩ := Option.isSome_iff_exists.1 x5
  obtain ⟨u5, s5⟩ := Option.isSome_iff_exists.1 x6
  have e0 : ¬ C = w.heap.size := by omega
  have d0 : ¬ w.heap.size = C := by omega
  have e1 : ¬ C = w.heap.size + 1 := by omega
  have d1 : ¬ w.heap.size + 1 = C := by omega
  have e2 : ¬ C = w.heap.size + 1 + 1 := by omega
  have d2 : ¬ w.heap.size + 1 + 1 = C := by omega
  have e3 : ¬ C = w.heap.size + 1 + 1 + 1 := by omega
  have d3 : ¬ w.heap.size + 1 + 1 + 1 = C := by omega
  have e4 : ¬ C = w.heap.size + 1 + 1 + 1 + 1 := by omega
  have d4 : ¬ w.heap.size + 1 + 1 + 1 + 1 = C := by omega
  have e5 : ¬ C = w.heap.size + 1 + 1 + 1 + 1 + 1 := by omega
  have d5 : ¬ w.heap.size + 1 + 1 + 1 + 1 + 1 = C := by omega
  have e6 : ¬ C = A := by omega
  have d6 : ¬ A = C := by omega
  have e7 : ¬ C = B := by omega
  have d7 : ¬ B = C := by omega
  have e9 : ¬ C = D := by omega
  have d9 : ¬ D = C := by omega
  refine ⟨x0.setCell (by show w.heap.size ≤ C; omega) _, ?_, ?_, ?_, ?_, ?_, ?_, ?_, ?_, ?_, ?_, ?_, ?_, ?_, ?_, ?_, ?_, ?_, ?_, ?_, ?_, x21, x22, x23, x24, by simpa using x25⟩
  all_goals (set_option linter.unusedSimpArgs false in simp [go_sem, x1, x2, x3, s3, s4, s5, x7, x8, x9, x10, x11, x12, x13, x14, x15, x16, x17, x18, x19, x20, e0, d0, e1, d1, e2, d2, e3, d3, e4, d4, e5, d5, e6, d6, e7, d7, e9, d9])
theorem LE.put9 {w : World} {A B C D l a b f g k c : Nat} {w1 : World} (hyp : LE w A B C D l a b f g k c w1) (v : Nat) : LE w A B C D l a b f g k v (w1.setCell ⟨D, 0, none⟩ (.float .f64 v)) := by
  obtain ⟨x0, x1, x2, x3, x4, x5, x6, x7, x8, x9, x10, x11, x12, x13, x14, x15, x16, x17, x18, x19, x20, x21, x22, x23, x24, x25⟩ := hyp
  have hB := x0.size
  obtain ⟨u3, s3⟩ := Option.isSome_iff_exists.1 x4
  obtain ⟨u4, s4⟩ := Option.isSome_iff_exists.1 x5
  obtain ⟨u5, s5⟩ := Option.isSome_iff_exists.1 x6
  have e0 : ¬ D = w.heap.size := by omega
  have d0 : ¬ w.heap.size = D := by omega
  have e1 : ¬ D = w.heap.size + 1 := by omega
  have d1 : ¬ w.heap.size + 1 = D := by omega
  have e2 : ¬ D = w.heap.size + 1 + 1 := by omega
  have d2 : ¬ w.heap.size + 1 + 1 = D := by omega
  have e3 : ¬ D = w.heap.size + 1 + 1 + 1 := by omega
  have d3 : ¬ w.heap.size + 1 + 1 + 1 = D := by omega
  have e4 : ¬ D = w.heap.size + 1 + 1 + 1 + 1 := by omega
  have d4 : ¬ w.heap.size + 1 + 1 + 1 + 1 = D := by omega
  have e5 : ¬ D = w.heap.size + 1 + 1 + 1 + 1 + 1 := by omega
  have d5 : ¬ w.heap.size + 1 + 1 + 1 + 1 + 1 = D := by omega
  have e6 : ¬ D = A := by omega
  have d6 : ¬ A = D := by omega
  have e7 : ¬ D = B := by omega
  have d7 : ¬ B = D := by omega
  have e8 : ¬ D = C := by omega
  have d8 : ¬ C = D := by omega
  refine ⟨x0.setCell (by show w.heap.size ≤ D; omega) _, ?_, ?_, ?_, ?_, ?_, ?_, ?_, ?_, ?_, ?_, ?_, ?_, ?_, ?_, ?_, ?_, ?_, ?_, ?_, ?_, x21, x22, x23, x24, by simpa using x25⟩
  all_goals (set_option linter.unusedSimpArgs false in simp [go_sem, x1, x2, x3, s3, s4, s5, x7, x8, x9, x10, x11, x12, x13, x14, x15, x16, x17, x18, x19, x20, e0, d0, e1, d1, e2, d2, e3, d3, e4, d4, e5, d5, e6, d6, e7, d7, e8, d8])
theorem LE.above {w : World} {A B C D l a b f g k c : Nat} {w1 : World} {M0 : Nat} (hyp : LE w A B C D l a b f g k c w1) (hM : D < M0) (v : Value) : LE w A B C D l a b f g k c (w1.setCell ⟨M0, 0, none⟩ v) := by
  obtain ⟨x0, x1, x2, x3, x4, x5, x6, x7, x8, x9, x10, x11, x12, x13, x14, x15, x16, x17, x18, x19, x20, x21, x22, x23, x24, x25⟩ := hyp
  have hB := x0.size
  obtain ⟨u3, s3⟩ := Option.isSome_iff_exists.1 x4
  obtain ⟨u4, s4⟩ := Option.isSome_iff_exists.1 x5
  obtain ⟨u5, s5⟩ := Option.isSome_iff_exists.1 x6
  have e0 : ¬ M0 = w.heap.size := by omega
  have d0 : ¬ w.heap.size = M0 := by omega
  have e1 : ¬ M0 = w.heap.size + 1 := by omega
  have d1 : ¬ w.heap.size + 1 = M0 := by omega
  have e2 : ¬ M0 = w.heap.size + 1 + 1 := by omega
  have d2 : ¬ w.heap.size + 1 + 1 = M0 := by omega
  have e3 : ¬ M0 = w.heap.size + 1 + 1 + 1 := by omega
  have d3 : ¬ w.heap.size + 1 + 1 + 1 = M0 := by omega
  have e4 : ¬ M0 = w.heap.size + 1 + 1 + 1 + 1 := by omega
  have d4 : ¬ w.heap.size + 1 + 1 + 1 + 1 = M0 := by omega
  have e5 : ¬ M0 = w.heap.size + 1 + 1 + 1 + 1 + 1 := by omega
  have d5 : ¬ w.heap.size + 1 + 1 + 1 + 1 + 1 = M0 := by omega
  have e6 : ¬ M0 = A := by omega
  have d6 : ¬ A = M0 := by omega
  have e7 : ¬ M0 = B := by omega
  have d7 : ¬ B = M0 := by omega
  have e8 : ¬ M0 = C := by omega
  have d8 : ¬ C = M0 := by omega
  have e9 : ¬ M0 = D := by omega
  have d9 : ¬ D = M0 := by omega
  refine ⟨x0.setCell (by show w.heap.size ≤ M0; omega) _, ?_, ?_, ?_, ?_, ?_, ?_, ?_, ?_, ?_, ?_, ?_, ?_, ?_, ?_, ?_, ?_, ?_, ?_, ?_, ?_, x21, x22, x23, x24, by simpa using x25⟩
  all_goals (set_option linter.unusedSimpArgs false in simp [go_sem, x1, x2, x3, s3, s4, s5, x7, x8, x9, x10, x11, x12, x13, x14, x15, x16, x17, x18, x19, x20, e0, d0, e1, d1, e2, d2, e3, d3, e4, d4, e5, d5, e6, d6, e7, d7, e8, d8, e9, d9])
theorem LE.ex3 {w : World} {A B C D l a b f g k c : Nat} {w1 : World} (hyp : LE w A B C D l a b f g k c w1) : ∃ v, w1.cell? ⟨w.heap.size + 1 + 1 + 1, 0, none⟩ = Option.some v := Option.isSome_iff_exists.1 hyp.2.2.2.2.1
theorem LE.ex4 {w : World} {A B C D l a b f g k c : Nat} {w1 : World} (hyp : LE w A B C D l a b f g k c w1) : ∃ v, w1.cell? ⟨w.heap.size + 1 + 1 + 1 + 1, 0, none⟩ = Option.some v := Option.isSome_iff_exists.1 hyp.2.2.2.2.2.1
theorem LE.ex5 {w : World} {A B C D l a b f g k c : Nat} {w1 : World} (hyp : LE w A B C D l a b f g k c w1) : ∃ v, w1.cell? ⟨w.heap.size + 1 + 1 + 1 + 1 + 1, 0, none⟩ = Option.some v := Option.isSome_iff_exists.1 hyp.2.2.2.2.2.2.1
theorem LE.of {w : World} {A B C l a b f g k D c : Nat} {w1 : World} (hyp : LD w A B C l a b f g k w1) (h1 : w1.cell? ⟨D, 0, none⟩ = some (.float .f64 c)) (h2 : w1.frozen? ⟨D, 0, none⟩ = false) (h3 : C < D) (h4 : D < w1.heap.size) : LE w A B C D l a b f g k c w1 := by
  obtain ⟨x0, x1, x2, x3, x4, x5, x6, x7, x8, x9, x10, x11, x12, x13, x14, x15, x16, x17, x18, x19, x20, x21, x22⟩ := hyp
  exact ⟨x0, x1, x2, x3, x4, x5, x6, x7, x8, x9, h1, x10, x11, x12, x13, x14, x15, x16, x17, x18, h2, x19, x20, x21, h3, h4⟩
theorem LE.new {w : World} {A B C l a b f g k : Nat} {w1 : World} (hyp : LD w A B C l a b f g k w1) (t c : Nat) : LE w A B C w1.heap.size l a b f g k c (w1.alloc (.cells #[.float .f64 c] t)) :=
  LE.of (hyp.step ((Below.refl _ _).alloc (Nat.le_refl _) _)) (by simp [go_sem]) (by simp [go_sem]) (by have := hyp.2.2.2.2.2.2.2.2.2.2.2.2.2.2.2.2.2.2.2.2.2.2; exact this) (by simp)
theorem LD.alloc {w : World} {A B C l a b f g k : Nat} {w1 : World} {o : Obj} (hyp : LD w A B C l a b f g k w1) : LD w A B C l a b f g k (w1.alloc o) := hyp.step ((Below.refl _ _).alloc (Nat.le_refl _) _)
def LF (w : World) (A B C D E l a b f g k c e : Nat) (w' : World) : Prop :=
  Below w.heap.size w w' ∧ w'.cell? ⟨w.heap.size, 0, none⟩ = some (.float .f64 l) ∧ w'.cell? ⟨w.heap.size + 1, 0, none⟩ = some (.float .f64 a) ∧ w'.cell? ⟨w.heap.size + 1 + 1, 0, none⟩ = some (.float .f64 b) ∧ (w'.cell? ⟨w.heap.size + 1 + 1 + 1, 0, none⟩).isSome = true ∧ (w'.cell? ⟨w.heap.size + 1 + 1 + 1 + 1, 0, none⟩).isSome = true ∧ (w'.cell? ⟨w.heap.size + 1 + 1 + 1 + 1 + 1, 0, none⟩).isSome = true ∧ w'.cell? ⟨A, 0, none⟩ = some (.float .f64 f) ∧ w'.cell? ⟨B, 0, none⟩ = some (.float .f64 g) ∧ w'.cell? ⟨C, 0, none⟩ = some (.float .f64 k) ∧ w'.cell? ⟨D, 0, none⟩ = some (.float .f64 c) ∧ w'.cell? ⟨E, 0, none⟩ = some (.float .f64 e) ∧ w'.frozen? ⟨w.heap.size, 0, none⟩ = false ∧ w'.frozen? ⟨w.heap.size + 1, 0, none⟩ = false ∧ w'.frozen? ⟨w.heap.size + 1 + 1, 0, none⟩ = false ∧ w'.frozen? ⟨w.heap.size + 1 + 1 + 1, 0, none⟩ = false ∧ w'.frozen? ⟨w.heap.size + 1 + 1 + 1 + 1, 0, none⟩ = false ∧ w'.frozen? ⟨w.heap.size + 1 + 1 + 1 + 1 + 1, 0, none⟩ = false ∧ w'.frozen? ⟨A, 0, none⟩ = false ∧ w'.frozen? ⟨B, 0, none⟩ = false ∧ w'.frozen? ⟨C, 0, none⟩ = false ∧ w'.frozen? ⟨D, 0, none⟩ = false ∧ w'.frozen? ⟨E, 0, none⟩ = false ∧ w.heap.size + 1 + 1 + 1 + 1 + 1 < A ∧ A < B ∧ B < C ∧ C < D ∧ D < E ∧ E < w'.heap.size
theorem LF.step {w : World} {A B C D E l a b f g k c e : Nat} {w1 w2 : World} (hyp : LF w A B C D E l a b f g k c e w1) (hb : Below w1.heap.size w1 w2) : LF w A B C D E l a b f g k c e w2 := by
  obtain ⟨x0, x1, x2, x3, x4, x5, x6, x7, x8, x9, x10, x11, x12, x13, x14, x15, x16, x17, x18, x19, x20, x21, x22, x23, x24, x25, x26, x27, x28⟩ := hyp
  have hc : ∀ b o, b < w1.heap.size → w2.cell? ⟨b, o, none⟩ = w1.cell? ⟨b, o, none⟩ := fun b o h => hb.cell (p := ⟨b, o, none⟩) h
  have hf : ∀ b o, b < w1.heap.size → w2.frozen? ⟨b, o, none⟩ = w1.frozen? ⟨b, o, none⟩ := fun b o h => hb.frozen (p := ⟨b, o, none⟩) h
  have hz := hb.size
  have hB := x0.size
  exact ⟨x0.trans (hb.mono (by omega)), by rw [hc _ _ (by omega)]; exact x1, by rw [hc _ _ (by omega)]; exact x2, by rw [hc _ _ (by omega)]; exact x3, by rw [hc _ _ (by omega)]; exact x4, by rw [hc _ _ (by omega)]; exact x5, by rw [hc _ _ (by omega)]; exact x6, by rw [hc _ _ (by omega)]; exact x7, by rw [hc _ _ (by omega)]; exact x8, by rw [hc _ _ (by omega)]; exact x9, by rw [hc _ _ (by omega)]; exact x10, by rw [hc _ _ (by omega)]; exact x11, by rw [hf _ _ (by omega)]; exact x12, by rw [hf _ _ (by omega)]; exact x13, by rw [hf _ _ (by omega)]; exact x14, by rw [hf _ _ (by omega)]; exact x15, by rw [hf _ _ (by omega)]; exact x16, by rw [hf _ _ (by omega)]; exact x17, by rw [hf _ _ (by omega)]; exact x18, by rw [hf _ _ (by omega)]; exact x19, by rw [hf _ _ (by omega)]; exact x20, by rw [hf _ _ (by omega)]; exact x21, by rw [hf _ _ (by omega)]; exact x22, x23, x24, x25, x26, x27, by omega⟩
theorem LF.put0 {w : World} {A B C D E l a b f g k c e : Nat} {w1 : World} (hyp : LF w A B C D E l a b f g k c e w1) (v : Nat) : LF w A B C D E v a b f g k c e (w1.setCell ⟨w.heap.size, 0, none⟩ (.float .f64 v)) := by
  obtain ⟨x0, x1, x2, x3, x4, x5, x6, x7, x8, x9, x10, x11, x12, x13, x14, x15, x16, x17, x18, x19, x20, x21, x22, x23, x24, x25, x26, x27, x28⟩ := hyp
  have hB := x0.size
  obtain ⟨u3, s3⟩ := Option.isSome_iff_exists.1 x4
  obtain ⟨u4, s4⟩ := Option.isSome_iff_exists.1 x5
  obtain ⟨u5, s5⟩ := Option.isSome_iff_exists.1 x6
  have e6 : ¬ w.heap.size = A := by omega
  have d6 : ¬ A = w.heap.size := by omega
  have e7 : ¬ w.heap.size = B := by omega
  have d7 : ¬ B = w.heap.size := by omega
  have e8 : ¬ w.heap.size = C := by omega
  have d8 : ¬ C = w.heap.size := by omega
  have e9 : ¬ w.heap.size = D := by omega
  have d9 : ¬ D = w.heap.size := by omega
  have e10 : ¬ w.heap.size = E := by omega
  have d10 : ¬ E = w.heap.size := by omega
  refine ⟨x0.setCell (by show w.heap.size ≤ w.heap.size; omega) _, ?_, ?_, ?_, ?_, ?_, ?_, ?_, ?_, ?_, ?_, ?_, ?_, ?_, ?_, ?_, ?_, ?_, ?_, ?_, ?_, ?_, ?_, x23, x24, x25, x26, x27, by simpa using x28⟩
  all_goals (set_option linter.unusedSimpArgs false in simp [go_sem, x1, x2, x3, s3, s4, s5, x7, x8, x9, x10, x11, x12, x13, x14, x15, x16, x17, x18, x19, x20, x21, x22, e6, d6, e7, d7, e8, d8, e9, d9, e10, d10])
theorem LF.put1 {w : World} {A B C D E l a b f g k c e : Nat} {w1 : World} (hyp : LF w A B C D E l a b f g k c e w1) (v : Nat) : LF w A B C D E l v b f g k c e (w1.setCell ⟨w.heap.size + 1, 0, none⟩ (.float .f64 v)) := by
  obtain ⟨x0, x1, x2, x3, x4, x5, x6, x7, x8, x9, x10, x11, x12, x13, x14, x15, x16, x17, x18, x19, x20, x21, x22, x23, x24, x25, x26, x27, x28⟩ := hyp
  have hB := x0.size
  obtain ⟨u3, s3⟩ := Option.isSome_iff_exists.1 x4
  obtain ⟨u4, s4⟩ := Option.isSome_iff_exists.1 x5
  obtain ⟨u5, s5⟩ := Option.isSome_iff_exists.1 x6
  have e6 : ¬ w.heap.size + 1 = A := by omega
  have d6 : ¬ A = w.heap.size + 1 := by omega
  have e7 : ¬ w.heap.size + 1 = B := by omega
  have d7 : ¬ B = w.heap.size + 1 := by omega
  have e8 : ¬ w.heap.size + 1 = C := by omega
  have d8 : ¬ C = w.heap.size + 1 := by omega
  have e9 : ¬ w.heap.size + 1 = D := by omega
  have d9 : ¬ D = w.heap.size + 1 := by omega
  have e10 : ¬ w.heap.size + 1 = E := by omega
  have d10 : ¬ E = w.heap.size + 1 := by omega
  refine ⟨x0.setCell (by show w.heap.size ≤ w.heap.size + 1; omega) _, ?_, ?_, ?_, ?_, ?_, ?_, ?_, ?_, ?_, ?_, ?_, ?_, ?_, ?_, ?_, ?_, ?_, ?_, ?_, ?_, ?_, ?_, x23, x24, x25, x26, x27, by simpa using x28⟩
  all_goals (set_option linter.unusedSimpArgs false in simp [go_sem, x1, x2, x3, s3, s4, s5, x7, x8, x9, x10, x11, x12, x13, x14, x15, x16, x17, x18, x19, x20, x21, x22, e6, d6, e7, d7, e8, d8, e9, d9, e10, d10])
theorem LF.put2 {w : World} {A B C D E l a b f g k c e : Nat} {w1 : World} (hyp : LF w A B C D E l a b f g k c e w1) (v : Nat) : LF w A B C D E l a v f g k c e (w1.setCell ⟨w.heap.size + 1 + 1, 0, none⟩ (.float .f64 v)) := by
  obtain ⟨x0, x1, x2, x3, x4, x5, x6, x7, x8, x9, x10, x11, x12, x13, x14, x15, x16, x17, x18, x19, x20, x21, x22, x23, x24, x25, x26, x27, x28⟩ := hyp
  have hB := x0.size
  obtain ⟨u3, s3⟩ := Option.isSome_iff_exists.1 x4
  obtain ⟨u4, s4⟩ := Option.isSome_iff_exists.1 x5
  obtain ⟨u5, s5⟩ := Option.isSome_iff_exists.1 x6
  have e6 : ¬ w.heap.size + 1 + 1 = A := by omega
  have d6 : ¬ A = w.heap.size + 1 + 1 := by omega
  have e7 : ¬ w.heap.size + 1 + 1 = B := by omega
  have d7 : ¬ B = w.heap.size + 1 + 1 := by omega
  have e8 : ¬ w.heap.size + 1 + 1 = C := by omega
  have d8 : ¬ C = w.heap.size + 1 + 1 := by omega
  have e9 : ¬ w.heap.size + 1 + 1 = D := by omega
  have d9 : ¬ D = w.heap.size + 1 + 1 := by omega
  have e10 : ¬ w.heap.size + 1 + 1 = E := by omega
  have d10 : ¬ E = w.heap.size + 1 + 1 := by omega
  refine ⟨x0.setCell (by show w.heap.size ≤ w.heap.size + 1 + 1; omega) _, ?_, ?_, ?_, ?_, ?_, ?_, ?_, ?_, ?_, ?_, ?_, ?_, ?_, ?_, ?_, ?_, ?_, ?_, ?_, ?_, ?_, ?_, x23, x24, x25, x26, x27, by simpa using x28⟩
  all_goals (set_option linter.unusedSimpArgs false in simp [go_sem, x1, x2, x3, s3, s4, s5, x7, x8, x9, x10, x11, x12, x13, x14, x15, x16, x17, x18, x19, x20, x21, x22, e6, d6, e7, d7, e8, d8, e9, d9, e10, d10])
theorem LF.put3 {w : World} {A B C D E l a b f g k c e : Nat} {w1 : World} (hyp : LF w A B C D E l a b f g k c e w1) (v : Value) : LF w A B C D E l a b f g k c e (w1.setCell ⟨w.heap.size + 1 + 1 + 1, 0, none⟩ v) := by
  obtain ⟨x0, x1, x2, x3, x4, x5, x6, x7, x8, x9, x10, x11, x12, x13, x14, x15, x16, x17, x18, x19, x20, x21, x22, x23, x24, x25, x26, x27, x28⟩ := hyp
  have hB := x0.size
  obtain ⟨u3, s3⟩ := Option.isSome_iff_exists.1 x4
  obtain ⟨u4, s4⟩ := Option.isSome_iff_exists.1 x5
  obtain ⟨u5, s5⟩ := Option.isSome_iff_exists.1 x6
  have e6 : ¬ w.heap.size + 1 + 1 + 1 = A := by omega
  have d6 : ¬ A = w.heap.size + 1 + 1 + 1 := by omega
  have e7 : ¬ w.heap.size + 1 + 1 + 1 = B := by omega
  have d7 : ¬ B = w.heap.size + 1 + 1 + 1 := by omega
  have e8 : ¬ w.heap.size + 1 + 1 + 1 = C := by omega
  have d8 : ¬ C = w.heap.size + 1 + 1 + 1 := by omega
  have e9 : ¬ w.heap.size + 1 + 1 + 1 = D := by omega
  have d9 : ¬ D = w.heap.size + 1 + 1 + 1 := by omega
  have e10 : ¬ w.heap.size + 1 + 1 + 1 = E := by omega
  have d10 : ¬ E = w.heap.size + 1 + 1 + 1 := by omega
  refine ⟨x0.setCell (by show w.heap.size ≤ w.heap.size + 1 + 1 + 1; omega) _, ?_, ?_, ?_, ?_, ?_, ?_, ?_, ?_, ?_, ?_, ?_, ?_, ?_, ?_, ?_, ?_, ?_, ?_, ?_, ?_, ?_, ?_, x23, x24, x25, x26, x27, by simpa using x28⟩
  all_goals (set_option linter.unusedSimpArgs false in simp [go_sem, x1, x2, x3, s3, s4, s5, x7, x8, x9, x10, x11, x12, x13, x14, x15, x16, x17, x18, x19, x20, x21, x22, e6, d6, e7, d7, e8, d8, e9, d9, e10, d10])
theorem LF.put4 {w : World} {A B C D E l a b f g k c e : Nat} {w1 : World} (hyp : LF w A B C D E l a b f g k c e w1) (v : Value) : LF w A B C D E l a b f g k c e (w1.setCell ⟨w.heap.size + 1 + 1 + 1 + 1, 0, none⟩ v) := by
  obtain ⟨x0, x1, x2, x3, x4, x5, x6, x7, x8, x9, x10, x11, x12, x13, x14, x15, x16, x17, x18, x19, x20, x21, x22, x23, x24, x25, x26, x27, x28⟩ := hyp
  have hB := x0.size
  obtain ⟨u3, s3⟩ := Option.isSome_iff_exists.1 x4
  obtain ⟨u4, s4⟩ := Option.isSome_iff_exists.1 x5
  obtain ⟨u5, s5⟩ := Option.isSome_iff_exists.1 x6
  have e6 : ¬ w.heap.size + 1 + 1 + 1 + 1 = A := by omega
  have d6 : ¬ A = w.heap.size + 1 + 1 + 1 + 1 := by omega
  have e7 : ¬ w.heap.size + 1 + 1 + 1 + 1 = B := by omega
  have d7 : ¬ B = w.heap.size + 1 + 1 + 1 + 1 := by omega
  have e8 : ¬ w.heap.size + 1 + 1 + 1 + 1 = C := by omega
  have d8 : ¬ C = w.heap.size + 1 + 1 + 1 + 1 := by omega
  have e9 : ¬ w.heap.size + 1 + 1 + 1 + 1 = D := by omega
  have d9 : ¬ D = w.heap.size + 1 + 1 + 1 + 1 := by omega
  have e10 : ¬ w.heap.size + 1 + 1 + 1 + 1 = E := by omega
  have d10 : ¬ E = w.heap.size + 1 + 1 + 1 + 1 := by omega
  refine ⟨x0.setCell (by show w.heap.size ≤ w.heap.size + 1 + 1 + 1 + 1; omega) _, ?_, ?_, ?_, ?_, ?_, ?_, ?_, ?_, ?_, ?_, ?_, ?_, ?_, ?_, ?_, ?_, ?_, ?_, ?_, ?_, ?_, ?_, x23, x24, x25, x26, x27, by simpa using x28⟩
  all_goals (set_option linter.unusedSimpArgs false in simp [go_sem, x1, x2, x3, s3, s4, s5, x7, x8, x9, x10, x11, x12, x13, x14, x15, x16, x17, x18, x19, x20, x21, x22, e6, d6, e7, d7, e8, d8, e9, d9, e10, d10])
theorem LF.put5 {w : World} {A B C D E l a b f g k c e : Nat} {w1 : World} (hyp : LF w A B C D E l a b f g k c e w1) (v : Value) : LF w A B C D E l a b f g k c e (w1.setCell ⟨w.heap.size + 1 + 1 + 1 + 1 + 1, 0, none⟩ v) := by
  obtain ⟨x0, x1, x2, x3, x4, x5, x6, x7, x8, x9, x10, x11, x12, x13, x14, x15, x16, x17, x18, x19, x20, x21, x22, x23, x24, x25, x26, x27, x28⟩ := hyp
  have hB := x0.size
  obtain ⟨u3, s3⟩ := Option.isSome_iff_exists.1 x4
  obtain ⟨u4, s4⟩ := Option.isSome_iff_exists.1 x5
  obtain ⟨u5, s5⟩ := Option.isSome_iff_exists.1 x6
  have e6 : ¬ w.heap.size + 1 + 1 + 1 + 1 + 1 = A := by omega
  have d6 : ¬ A = w.heap.size + 1 + 1 + 1 + 1 + 1 := by omega
  have e7 : ¬ w.heap.size + 1 + 1 + 1 + 1 + 1 = B := by omega
  have d7 : ¬ B = w.heap.size + 1 + 1 + 1 + 1 + 1 := by omega
  have e8 : ¬ w.heap.size + 1 + 1 + 1 + 1 + 1 = C := by omega
  have d8 : ¬ C = w.heap.size + 1 + 1 + 1 + 1 + 1 := by omega
  have e9 : ¬ w.heap.size + 1 + 1 + 1 + 1 + 1 = D := by omega
  have d9 : ¬ D = w.heap.size + 1 + 1 + 1 + 1 + 1 := by omega
  have e10 : ¬ w.heap.size + 1 + 1 + 1 + 1 + 1 = E := by omega
  have d10 : ¬ E = w.heap.size + 1 + 1 + 1 + 1 + 1 := by omega
  refine ⟨x0.setCell (by show w.heap.size ≤ w.heap.size + 1 + 1 + 1 + 1 + 1; omega) _, ?_, ?_, ?_, ?_, ?_, ?_, ?_, ?_, ?_, ?_, ?_, ?_, ?_, ?_, ?_, ?_, ?_, ?_, ?_, ?_, ?_, ?_, x23, x24, x25, x26, x27, by simpa using x28⟩
  all_goals (set_option linter.unusedSimpArgs false in simp [go_sem, x1, x2, x3, s3, s4, s5, x7, x8, x9, x10, x11, x12, x13, x14, x15, x16, x17, x18, x19, x20, x21, x22, e6, d6, e7, d7, e8, d8, e9, d9, e10, d10])
theorem LF.put6 {w : World} {A B C D E l a b f g k c e : Nat} {w1 : World} (hyp : LF w A B C D E l a b f g k c e w1) (v : Nat) : LF w A B C D E l a b v g k c e (w1.setCell ⟨A, 0, none⟩ (.float .f64 v)) := by
  obtain ⟨x0, x1, x2, x3, x4, x5, x6, x7, x8, x9, x10, x11, x12, x13, x14, x15, x16, x17, x18, x19, x20, x21, x22, x23, x24, x25, x26, x27, x28⟩ := hyp
  have hB := x0.size
  obtain ⟨u3, s3⟩ := Option.isSome_iff_exists.1 x4
  obtain ⟨u4, s4⟩ := Option.isSome_iff_exists.1 x5
  obtain ⟨u5, s5⟩ := Option.isSome_iff_exists.1 x6
  have e0 : ¬ A = w.heap.size := by omega
  have d0 : ¬ w.heap.size = A := by omega
  have e1 : ¬ A = w.heap.size + 1 := by omega
  have d1 : ¬ w.heap.size + 1 = A := by omega
  have e2 : ¬ A = w.heap.size + 1 + 1 := by omega
  have d2 : ¬ w.heap.size + 1 + 1 = A := by omega
  have e3 : ¬ A = w.heap.size + 1 + 1 + 1 := by omega
  have d3 : ¬ w.heap.size + 1 + 1 + 1 = A := by omega
  have e4 : ¬ A = w.heap.size + 1 + 1 + 1 + 1 := by omega
  have d4 : ¬ w.heap.size + 1 + 1 + 1 + 1 = A := by omega
  have e5 : ¬ A = w.heap.size + 1 + 1 + 1 + 1 + 1 := by omega
  have d5 : ¬ w.heap.size + 1 + 1 + 1 + 1 + 1 = A := by omega
  have e7 : ¬ A = B := by omega
  have d7 : ¬ B = A := by omega
  have e8 : ¬ A = C := by omega
  have d8 : ¬ C = A := by omega
  have e9 : ¬ A = D := by omega
  have d9 : ¬ D = A := by omega
  have e10 : ¬ A = E := by omega
  have d10 : ¬ E = A := by omega
  refine ⟨x0.setCell (by show w.heap.size ≤ A; omega) _, ?_, ?_, ?_, ?_, ?_, ?_, ?_, ?_, ?_, ?_, ?_, ?_, ?_, ?_, ?_, ?_, ?_, ?_, ?_, ?_, ?_, ?_, x23, x24, x25, x26, x27, by simpa using x28⟩
  all_goals (set_option linter.unusedSimpArgs false in simp [go_sem, x1, x2, x3, s3, s4, s5, x7, x8, x9, x10, x11, x12, x13, x14, x15, x16, x17, x18, x19, x20, x21, x22, e0, d0, e1, d1, e2, d2, e3, d3, e4, d4, e5, d5, e7, d7, e8, d8, e9, d9, e10, d10])
theorem LF.put7 {w : World} {A B C D E l a b f g k c e : Nat} {w1 : World} (hyp : LF w A B C D E l a b f g k c e w1) (v : Nat) : LF w A B C D E l a b f v k c e (w1.setCell ⟨B, 0, none⟩ (.float .f64 v)) := by
  obtain ⟨x0, x1, x2, x3, x4, x5, x6, x7, x8, x9, x10, x11, x12, x13, x14, x15, x16, x17, x18, x19, x20, x21, x22, x23, x24, x25, x26, x27, x28⟩ := hyp
  have hB := x0.size
  obtain ⟨u3, s3⟩ := Option.isSome_iff_exists.1 x4
  obtain ⟨u4, s4⟩ := Option.isSome_iff_exists.1 x5
  obtain ⟨u5, s5⟩ := Option.isSome_iff_exists.1 x6
  have e0 : ¬ B = w.heap.size := by omega
  have d0 : ¬ w.heap.size = B := by omega
  have e1 : ¬ B = w.heap.size + 1 := by omega
  have d1 : ¬ w.heap.size + 1 = B := by omega
  have e2 : ¬ B = w.heap.size + 1 + 1 := by omega
  have d2 : ¬ w.heap.size + 1 + 1 = B := by omega
  have e3 : ¬ B = w.heap.size + 1 + 1 + 1 := by omega
  have d3 : ¬ w.heap.size + 1 + 1 + 1 = B := by omega
  have e4 : ¬ B = w.heap.size + 1 + 1 + 1 + 1 := by omega
  have d4 : ¬ w.heap.size + 1 + 1 + 1 + 1 = B := by omega
  have e5 : ¬ B = w.heap.size + 1 + 1 + 1 + 1 + 1 := by omega
  have d5 : ¬ w.heap.size + 1 + 1 + 1 + 1 + 1 = B := by omega
  have e6 : ¬ B = A := by omega
  have d6 : ¬ A = B := by omega
  have e8 : ¬ B = C := by omega
  have d8 : ¬ C = B := by omega
  have e9 : ¬ B = D := by omega
  have d9 : ¬ D = B := by omega
  have e10 : ¬ B = E := by omega
  have d10 : ¬ E = B := by omega
  refine ⟨x0.setCell (by show w.heap.size ≤ B; omega) _, ?_, ?_, ?_, ?_, ?_, ?_, ?_, ?_, ?_, ?_, ?_, ?_, ?_, ?_, ?_, ?_, ?_, ?_, ?_, ?_, ?_, ?_, x23, x24, x25, x26, x27, by simpa using x28⟩
  all_goals (set_option linter.unusedSimpArgs false in simp [go_sem, x1, x2, x3, s3, s4, s5, x7, x8, x9, x10, x11, x12, x13, x14, x15, x16, x17, x18, x19, x20, x21, x22, e0, d0, e1, d1, e2, d2, e3, d3, e4, d4, e5, d5, e6, d6, e8, d8, e9, d9, e10, d10])
theorem LF.put8 {w : World} {A B C D E l a b f g k c e : Nat} {w1 : World} (hyp : LF w A B C D E l a b f g k c e w1) (v : Nat) : LF w A B C D E l a b f g v c e (w1.setCell ⟨C, 0, none⟩ (.float .f64 v)) := by
  obtain ⟨x0, x1, x2, x3, x4, x5, x6, x7, x8, x9, x10, x11, x12, x13, x14, x15, x16, x17, x18, x19, x20, x21, x22, x23, x24, x25, x26, x27, x28⟩ := hyp
  have hB := x0.size
  obtain ⟨u3, s3⟩ := Option.isSome_iff_exists.1 x4
  obtain ⟨u4, s4⟩ := Option.isSome_iff_exists.1 x5
  obtain ⟨u5, s5⟩ := Option.isSome_iff_exists.1 x6
  have e0 : ¬ C = w.heap.size := by omega
  have d0 : ¬ w.heap.size = C := by omega
  have e1 : ¬ C = w.heap.size + 1 := by omega
  have d1 : ¬ w.heap.size + 1 = C := by omega
  have e2 : ¬ C = w.heap.size + 1 + 1 := by omega
  have d2 : ¬ w.heap.size + 1 + 1 = C := by omega
  have e3 : ¬ C = w.heap.size + 1 + 1 + 1 := by omega
  have d3 : ¬ w.heap.size + 1 + 1 + 1 = C := by omega
  have e4 : ¬ C = w.heap.size + 1 + 1 + 1 + 1 := by omega
  have d4 : ¬ w.heap.size + 1 + 1 + 1 + 1 = C := by omega
  have e5 : ¬ C = w.heap.size + 1 + 1 + 1 + 1 + 1 := by omega
  have d5 : ¬ w.heap.size + 1 + 1 + 1 + 1 + 1 = C := by omega
  have e6 : ¬ C = A := by omega
  have d6 : ¬ A = C := by omega
  have e7 : ¬ C = B := by omega
  have d7 : ¬ B = C := by omega
  have e9 : ¬ C = D := by omega
  have d9 : ¬ D = C := by omega
  have e10 : ¬ C = E := by omega
  have d10 : ¬ E = C := by omega
  refine ⟨x0.setCell (by show w.heap.size ≤ C; omega) _, ?_, ?_, ?_, ?_, ?_, ?_, ?_, ?_, ?_, ?_, ?_, ?_, ?_, ?_, ?_, ?_, ?_, ?_, ?_, ?_, ?_, ?_, x23, x24, x25, x26, x27, by simpa using x28⟩
  all_goals (set_option linter.unusedSimpArgs false in simp [go_sem, x1, x2, x3, s3, s4, s5, x7, x8, x9, x10, x11, x12, x13, x14, x15, x16, x17, x18, x19, x20, x21, x22, e0, d0, e1, d1, e2, d2, e3, d3, e4, d4, e5, d5, e6, d6, e7, d7, e9, d9, e10, d10])
theorem LF.put9 {w : World} {A B C D E l a b f g k c e : Nat} {w1 : World} (hyp : LF w A B C D E l a b f g k c e w1) (v : Nat) : LF w A B C D E l a b f g k v e (w1.setCell ⟨D, 0, none⟩ (.float .f64 v)) := by
  obtain ⟨x0, x1, x2, x3, x4, x5, x6, x7, x8, x9, x10, x11, x12, x13, x14, x15, x16, x17, x18, x19, x20, x21, x22, x23, x24, x25, x26, x27, x28⟩ := hyp
  have hB := x0.size
  obtain ⟨u3, s3⟩ := Option.isSome_iff_exists.1 x4
  obtain ⟨u4, s4⟩ := Option.isSome_iff_exists.1 x5
  obtain ⟨u5, s5⟩ := Option.isSome_iff_exists.1 x6
  have e0 : ¬ D = w.heap.size := by omega
  have d0 : ¬ w.heap.size = D := by omega
  have e1 : ¬ D = w.heap.size + 1 := by omega
  have d1 : ¬ w.heap.size + 1 = D := by omega
  have e2 : ¬ D = w.heap.size + 1 + 1 := by omega
  have d2 : ¬ w.heap.size + 1 + 1 = D := by omega
  have e3 : ¬ D = w.heap.size + 1 + 1 + 1 := by omega
  have d3 : ¬ w.heap.size + 1 + 1 + 1 = D := by omega
  have e4 : ¬ D = w.heap.size + 1 + 1 + 1 + 1 := by omega
  have d4 : ¬ w.heap.size + 1 + 1 + 1 + 1 = D := by omega
  have e5 : ¬ D = w.heap.size + 1 + 1 + 1 + 1 + 1 := by omega
  have d5 : ¬ w.heap.size + 1 + 1 + 1 + 1 + 1 = D := by omega
  have e6 : ¬ D = A := by omega
  have d6 : ¬ A = D := by omega
  have e7 : ¬ D = B := by omega
  have d7 : ¬ B = D := by omega
  have e8 : ¬ D = C := by omega
  have d8 : ¬ C = D := by omega
  have e10 : ¬ D = E := by omega
  have d10 : ¬ E = D := by omega
  refine ⟨x0.setCell (by show w.heap.size ≤ D; omega) _, ?_, ?_, ?_, ?_, ?_, ?_, ?_, ?_, ?_, ?_, ?_, ?_, ?_, ?_, ?_, ?_, ?_, ?_, ?_, ?_, ?_, ?_, x23, x24, x25, x26, x27, by simpa using x28⟩
  all_goals (set_option linter.unusedSimpArgs false in simp [go_sem, x1, x2, x3, s3, s4, s5, x7, x8, x9, x10, x11, x12, x13, x14, x15, x16, x17, x18, x19, x20, x21, x22, e0, d0, e1, d1, e2, d2, e3, d3, e4, d4, e5, d5, e6, d6, e7, d7, e8, d8, e10, d10])
theorem LF.put10 {w : World} {A B C D E l a b f g k c e : Nat} {w1 : World} (hyp : LF w A B C D E l a b f g k c e w1) (v : Nat) : LF w A B C D E l a b f g k c v (w1.setCell ⟨E, 0, none⟩ (.float .f64 v)) := by
  obtain ⟨x0, x1, x2, x3, x4, x5, x6, x7, x8, x9, x10, x11, x12, x13, x14, x15, x16, x17, x18, x19, x20, x21, x22, x23, x24, x25, x26, x27, x28⟩ := hyp
  have hB := x0.size
  obtain ⟨u3, s3⟩ := Option.isSome_iff_exists.1 x4
  obtain ⟨u4, s4⟩ := Option.isSome_iff_exists.1 x5
  obtain ⟨u5, s5⟩ := Option.isSome_iff_exists.1 x6
  have e0 : ¬ E = w.heap.size := by omega
  have d0 : ¬ w.heap.size = E := by omega
  have e1 : ¬ E = w.heap.size + 1 := by omega
  have d1 : ¬ w.heap.size + 1 = E := by omega
  have e2 : ¬ E = w.heap.size + 1 + 1 := by omega
  have d2 : ¬ w.heap.size + 1 + 1 = E := by omega
  have e3 : ¬ E = w.heap.size + 1 + 1 + 1 := by omega
  have d3 : ¬ w.heap.size + 1 + 1 + 1 = E := by omega
  have e4 : ¬ E = w.heap.size + 1 + 1 + 1 + 1 := by omega
  have d4 : ¬ w.heap.size + 1 + 1 + 1 + 1 = E := by omega
  have e5 : ¬ E = w.heap.size + 1 + 1 + 1 + 1 + 1 := by omega
  have d5 : ¬ w.heap.size + 1 + 1 + 1 + 1 + 1 = E := by omega
  have e6 : ¬ E = A := by omega
  have d6 : ¬ A = E := by omega
  have e7 : ¬ E = B := by omega
  have d7 : ¬ B = E := by omega
  have e8 : ¬ E = C := by omega
  have d8 : ¬ C = E := by omega
  have e9 : ¬ E = D := by omega
  have d9 : ¬ D = E := by omega
  refine ⟨x0.setCell (by show w.heap.size ≤ E; omega) _, ?_, ?_, ?_, ?_, ?_, ?_, ?_, ?_, ?_, ?_, ?_, ?_, ?_, ?_, ?_, ?_, ?_, ?_, ?_, ?_, ?_, ?_, x23, x24, x25, x26, x27, by simpa using x28⟩
  all_goals (set_option linter.unusedSimpArgs false in simp [go_sem, x1, x2, x3, s3, s4, s5, x7, x8, x9, x10, x11, x12, x13, x14, x15, x16, x17, x18, x19, x20, x21, x22, e0, d0, e1, d1, e2, d2, e3, d3, e4, d4, e5, d5, e6, d6, e7, d7, e8, d8, e9, d9])
theorem LF.above {w : World} {A B C D E l a b f g k c e : Nat} {w1 : World} {M0 : Nat} (hyp : LF w A B C D E l a b f g k c e w1) (hM : E < M0) (v : Value) : LF w A B C D E l a b f g k c e (w1.setCell ⟨M0, 0, none⟩ v) := by
  obtain ⟨x0, x1, x2, x3, x4, x5, x6, x7, x8, x9, x10, x11, x12, x13, x14, x15, x16, x17, x18, x19, x20, x21, x22, x23, x24, x25, x26, x27, x28⟩ := hyp
  have hB := x0.size
  obtain ⟨u3, s3⟩ := Option.isSome_iff_exists.1 x4
  obtain ⟨u4, s4⟩ := Option.isSome_iff_exists.1 x5
  obtain ⟨u5, s5⟩ := Option.isSome_iff_exists.1 x6
  have e0 : ¬ M0 = w.heap.size := by omega
  have d0 : ¬ w.heap.size = M0 := by omega
  have e1 : ¬ M0 = w.heap.size + 1 := by omega
  have d1 : ¬ w.heap.size + 1 = M0 := by omega
  have e2 : ¬ M0 = w.heap.size + 1 + 1 := by omega
  have d2 : ¬ w.heap.size + 1 + 1 = M0 := by omega
  have e3 : ¬ M0 = w.heap.size + 1 + 1 + 1 := by omega
  have d3 : ¬ w.heap.size + 1 + 1 + 1 = M0 := by omega
  have e4 : ¬ M0 = w.heap.size + 1 + 1 + 1 + 1 := by omega
  have d4 : ¬ w.heap.size + 1 + 1 + 1 + 1 = M0 := by omega
  have e5 : ¬ M0 = w.heap.size + 1 + 1 + 1 + 1 + 1 := by omega
  have d5 : ¬ w.heap.size + 1 + 1 + 1 + 1 + 1 = M0 := by omega
  have e6 : ¬ M0 = A := by omega
  have d6 : ¬ A = M0 := by omega
  have e7 : ¬ M0 = B := by omega
  have d7 : ¬ B = M0 := by omega
  have e8 : ¬ M0 = C := by omega
  have d8 : ¬ C = M0 := by omega
  have e9 : ¬ M0 = D := by omega
  have d9 : ¬ D = M0 := by omega
  have e10 : ¬ M0 = E := by omega
  have d10 : ¬ E = M0 := by omega
  refine ⟨x0.setCell (by show w.heap.size ≤ M0; omega) _, ?_, ?_, ?_, ?_, ?_, ?_, ?_, ?_, ?_, ?_, ?_, ?_, ?_, ?_, ?_, ?_, ?_, ?_, ?_, ?_, ?_, ?_, x23, x24, x25, x26, x27, by simpa using x28⟩
  all_goals (set_option linter.unusedSimpArgs false in simp [go_sem, x1, x2, x3, s3, s4, s5, x7, x8, x9, x10, x11, x12, x13, x14, x15, x16, x17, x18, x19, x20, x21, x22, e0, d0, e1, d1, e2, d2, e3, d3, e4, d4, e5, d5, e6, d6, e7, d7, e8, d8, e9, d9, e10, d10])
theorem LF.ex3 {w : World} {A B C D E l a b f g k c e : Nat} {w1 : World} (hyp : LF w A B C D E l a b f g k c e w1) : ∃ v, w1.cell? ⟨w.heap.size + 1 + 1 + 1, 0, none⟩ = Option.some v := Option.isSome_iff_exists.1 hyp.2.2.2.2.1
theorem LF.ex4 {w : World} {A B C D E l a b f g k c e : Nat} {w1 : World} (hyp : LF w A B C D E l a b f g k c e w1) : ∃ v, w1.cell? ⟨w.heap.size + 1 + 1 + 1 + 1, 0, none⟩ = Option.some v := Option.isSome_iff_exists.1 hyp.2.2.2.2.2.1
theorem LF.ex5 {w : World} {A B C D E l a b f g k c e : Nat} {w1 : World} (hyp : LF w A B C D E l a b f g k c e w1) : ∃ v, w1.cell? ⟨w.heap.size + 1 + 1 + 1 + 1 + 1, 0, none⟩ = Option.some v := Option.isSome_iff_exists.1 hyp.2.2.2.2.2.2.1
theorem LF.of {w : World} {A B C D l a b f g k c E e : Nat} {w1 : World} (hyp : LE w A B C D l a b f g k c w1) (h1 : w1.cell? ⟨E, 0, none⟩ = some (.float .f64 e)) (h2 : w1.frozen? ⟨E, 0, none⟩ = false) (h3 : D < E) (h4 : E < w1.heap.size) : LF w A B C D E l a b f g k c e w1 := by
  obtain ⟨x0, x1, x2, x3, x4, x5, x6, x7, x8, x9, x10, x11, x12, x13, x14, x15, x16, x17, x18, x19, x20, x21, x22, x23, x24, x25⟩ := hyp
  exact ⟨x0, x1, x2, x3, x4, x5, x6, x7, x8, x9, x10, h1, x11, x12, x13, x14, x15, x16, x17, x18, x19, x20, h2, x21, x22, x23, x24, h3, h4⟩
theorem LF.new {w : World} {A B C D l a b f g k c : Nat} {w1 : World} (hyp : LE w A B C D l a b f g k c w1) (t e : Nat) : LF w A B C D w1.heap.size l a b f g k c e (w1.alloc (.cells #[.float .f64 e] t)) :=
  LF.of (hyp.step ((Below.refl _ _).alloc (Nat.le_refl _) _)) (by simp [go_sem]) (by simp [go_sem]) (by have := hyp.2.2.2.2.2.2.2.2.2.2.2.2.2.2.2.2.2.2.2.2.2.2.2.2.2; exact this) (by simp)
theorem LE.alloc {w : World} {A B C D l a b f g k c : Nat} {w1 : World} {o : Obj} (hyp : LE w A B C D l a b f g k c w1) : LE w A B C D l a b f g k c (w1.alloc o) := hyp.step ((Below.refl _ _).alloc (Nat.le_refl _) _)
def LG (w : World) (A B C D E l a b x f g k c e : Nat) (w' : World) : Prop :=
  Below w.heap.size w w' ∧ w'.cell? ⟨w.heap.size, 0, none⟩ = some (.float .f64 l) ∧ w'.cell? ⟨w.heap.size + 1, 0, none⟩ = some (.float .f64 a) ∧ w'.cell? ⟨w.heap.size + 1 + 1, 0, none⟩ = some (.float .f64 b) ∧ w'.cell? ⟨w.heap.size + 1 + 1 + 1, 0, none⟩ = some (.float .f64 x) ∧ (w'.cell? ⟨w.heap.size + 1 + 1 + 1 + 1, 0, none⟩).isSome = true ∧ (w'.cell? ⟨w.heap.size + 1 + 1 + 1 + 1 + 1, 0, none⟩).isSome = true ∧ w'.cell? ⟨A, 0, none⟩ = some (.float .f64 f) ∧ w'.cell? ⟨B, 0, none⟩ = some (.float .f64 g) ∧ w'.cell? ⟨C, 0, none⟩ = some (.float .f64 k) ∧ w'.cell? ⟨D, 0, none⟩ = some (.float .f64 c) ∧ w'.cell? ⟨E, 0, none⟩ = some (.float .f64 e) ∧ w'.frozen? ⟨w.heap.size, 0, none⟩ = false ∧ w'.frozen? ⟨w.heap.size + 1, 0, none⟩ = false ∧ w'.frozen? ⟨w.heap.size + 1 + 1, 0, none⟩ = false ∧ w'.frozen? ⟨w.heap.size + 1 + 1 + 1, 0, none⟩ = false ∧ w'.frozen? ⟨w.heap.size + 1 + 1 + 1 + 1, 0, none⟩ = false ∧ w'.frozen? ⟨w.heap.size + 1 + 1 + 1 + 1 + 1, 0, none⟩ = false ∧ w'.frozen? ⟨A, 0, none⟩ = false ∧ w'.frozen? ⟨B, 0, none⟩ = false ∧ w'.frozen? ⟨C, 0, none⟩ = false ∧ w'.frozen? ⟨D, 0, none⟩ = false ∧ w'.frozen? ⟨E, 0, none⟩ = false ∧ w.heap.size + 1 + 1 + 1 + 1 + 1 < A ∧ A < B ∧ B < C ∧ C < D ∧ D < E ∧ E < w'.heap.size
theorem LG.step {w : World} {A B C D E l a b x f g k c e : Nat} {w1 w2 : World} (hyp : LG w A B C D E l a b x f g k c e w1) (hb : Below w1.heap.size w1 w2) : LG w A B C D E l a b x f g k c e w2 := by
  obtain ⟨x0, x1, x2, x3, x4, x5, x6, x7, x8, x9, x10, x11, x12, x13, x14, x15, x16, x17, x18, x19, x20, x21, x22, x23, x24, x25, x26, x27, x28⟩ := hyp
  have hc : ∀ b o, b < w1.heap.size → w2.cell? ⟨b, o, none⟩ = w1.cell? ⟨b, o, none⟩ := fun b o h => hb.cell (p := ⟨b, o, none⟩) h
  have hf : ∀ b o, b < w1.heap.size → w2.frozen? ⟨b, o, none⟩ = w1.frozen? ⟨b, o, none⟩ := fun b o h => hb.frozen (p := ⟨b, o, none⟩) h
  have hz := hb.size
  have hB := x0.size
  exact ⟨x0.trans (hb.mono (by omega)), by rw [hc _ _ (by omega)]; exact x1, by rw [hc _ _ (by omega)]; exact x2, by rw [hc _ _ (by omega)]; exact x3, by rw [hc _ _ (by omega)]; exact x4, by rw [hc _ _ (by omega)]; exact x5, by rw [hc _ _ (by omega)]; exact x6, by rw [hc _ _ (by omega)]; exact x7, by rw [hc _ _ (by omega)]; exact x8, by rw [hc _ _ (by omega)]; exact x9, by rw [hc _ _ (by omega)]; exact x10, by rw [hc _ _ (by omega)]; exact x11, by rw [hf _ _ (by omega)]; exact x12, by rw [hf _ _ (by omega)]; exact x13, by rw [hf _ _ (by omega)]; exact x14, by rw [hf _ _ (by omega)]; exact x15, by rw [hf _ _ (by omega)]; exact x16, by rw [hf _ _ (by omega)]; exact x17, by rw [hf _ _ (by omega)]; exact x18, by rw [hf _ _ (by omega)]; exact x19, by rw [hf _ _ (by omega)]; exact x20, by rw [hf _ _ (by omega)]; exact x21, by rw [hf _ _ (by omega)]; exact x22, x23, x24, x25, x26, x27, by omega⟩
theorem LG.put0 {w : World} {A B C D E l a b x f g k c e : Nat} {w1 : World} (hyp : LG w A B C D E l a b x f g k c e w1) (v : Nat) : LG w A B C D E v a b x f g k c e (w1.setCell ⟨w.heap.size, 0, none⟩ (.float .f64 v)) := by
  obtain ⟨x0, x1, x2, x3, x4, x5, x6, x7, x8, x9, x10, x11, x12, x13, x14, x15, x16, x17, x18, x19, x20, x21, x22, x23, x24, x25, x26, x27, x28⟩ := hyp
  have hB := x0.size
  obtain ⟨u4, s4⟩ := Option.isSome_iff_exists.1 x5
  obtain ⟨u5, s5⟩ := Option.isSome_iff_exists.1 x6
  have e6 : ¬ w.heap.size = A := by omega
  have d6 : ¬ A = w.heap.size := by omega
  have e7 : ¬ w.heap.size = B := by omega
  have d7 : ¬ B = w.heap.size := by omega
  have e8 : ¬ w.heap.size = C := by omega
  have d8 : ¬ C = w.heap.size := by omega
  have e9 : ¬ w.heap.size = D := by omega
  have d9 : ¬ D = w.heap.size := by omega
  have e10 : ¬ w.heap.size = E := by omega
  have d10 : ¬ E = w.heap.size := by omega
  refine ⟨x0.setCell (by show w.heap.size ≤ w.heap.size; omega) _, ?_, ?_, ?_, ?_, ?_, ?_, ?_, ?_, ?_, ?_, ?_, ?_, ?_, ?_, ?_, ?_, ?_, ?_, ?_, ?_, ?_, ?_, x23, x24, x25, x26, x27, by simpa using x28⟩
  all_goals (set_option linter.unusedSimpArgs false in simp [go_sem, x1, x2, x3, x4, s4, s5, x7, x8, x9, x10, x11, x12, x13, x14, x15, x16, x17, x18, x19, x20, x21, x22, e6, d6, e7, d7, e8, d8, e9, d9, e10, d10])
theorem LG.put1 {w : World} {A B C D E l a b x f g k c e : Nat} {w1 : World} (hyp : LG w A B C D E l a b x f g k c e w1) (v : Nat) : LG w A B C D E l v b x f g k c e (w1.setCell ⟨w.heap.size + 1, 0, none⟩ (.float .f64 v)) := by
  obtain ⟨x0, x1, x2, x3, x4, x5, x6, x7, x8, x9, x10, x11, x12, x13, x14, x15, x16, x17, x18, x19, x20, x21, x22, x23, x24, x25, x26, x27, x28⟩ := hyp
  have hB := x0.size
  obtain ⟨u4, s4⟩ := Option.isSome_iff_exists.1 x5
  obtain ⟨u5, s5⟩ := Option.isSome_iff_exists.1 x6
  have e6 : ¬ w.heap.size + 1 = A := by omega
  have d6 : ¬ A = w.heap.size + 1 := by omega
  have e7 : ¬ w.heap.size + 1 = B := by omega
  have d7 : ¬ B = w.heap.size + 1 := by omega
  have e8 : ¬ w.heap.size + 1 = C := by omega
  have d8 : ¬ C = w.heap.size + 1 := by omega
  have e9 : ¬ w.heap.size + 1 = D := by omega
  have d9 : ¬ D = w.heap.size + 1 := by omega
  have e10 : ¬ w.heap.size + 1 = E := by omega
  have d10 : ¬ E = w.heap.size + 1 := by omega
  refine ⟨x0.setCell (by show w.heap.size ≤ w.heap.size + 1; omega) _, ?_, ?_, ?_, ?_, ?_, ?_, ?_, ?_, ?_, ?_, ?_, ?_, ?_, ?_, ?_, ?_, ?_, ?_, ?_, ?_, ?_, ?_, x23, x24, x25, x26, x27, by simpa using x28⟩
  all_goals (set_option linter.unusedSimpArgs false in simp [go_sem, x1, x2, x3, x4, s4, s5, x7, x8, x9, x10, x11, x12, x13, x14, x15, x16, x17, x18, x19, x20, x21, x22, e6, d6, e7, d7, e8, d8, e9, d9, e10, d10])
theorem LG.put2 {w : World} {A B C D E l a b x f g k c e : Nat} {w1 : World} (hyp : LG w A B C D E l a b x f g k c e w1) (v : Nat) : LG w A B C D E l a v x f g k c e (w1.setCell ⟨w.heap.size + 1 + 1, 0, none⟩ (.float .f64 v)) := by
  obtain ⟨x0, x1, x2, x3, x4, x5, x6, x7, x8, x9, x10, x11, x12, x13, x14, x15, x16, x17, x18, x19, x20, x21, x22, x23, x24, x25, x26, x27, x28⟩ := hyp
  have hB := x0.size
  obtain ⟨u4, s4⟩ := Option.isSome_iff_exists.1 x5
  obtain ⟨u5, s5⟩ := Option.isSome_iff_exists.1 x6
  have e6 : ¬ w.heap.size + 1 + 1 = A := by omega
  have d6 : ¬ A = w.heap.size + 1 + 1 := by omega
  have e7 : ¬ w.heap.size + 1 + 1 = B := by omega
  have d7 : ¬ B = w.heap.size + 1 + 1 := by omega
  have e8 : ¬ w.heap.size + 1 + 1 = C := by omega
  have d8 : ¬ C = w.heap.size + 1 + 1 := by omega
  have e9 : ¬ w.heap.size + 1 + 1 = D := by omega
  have d9 : ¬ D = w.heap.size + 1 + 1 := by omega
  have e10 : ¬ w.heap.size + 1 + 1 = E := by omega
  have d10 : ¬ E = w.heap.size + 1 + 1 := by omega
  refine ⟨x0.setCell (by show w.heap.size ≤ w.heap.size + 1 + 1; omega) _, ?_, ?_, ?_, ?_, ?_, ?_, ?_, ?_, ?_, ?_, ?_, ?_, ?_, ?_, ?_, ?_, ?_, ?_, ?_, ?_, ?_, ?_, x23, x24, x25, x26, x27, by simpa using x28⟩
  all_goals (set_option linter.unusedSimpArgs false in simp [go_sem, x1, x2, x3, x4, s4, s5, x7, x8, x9, x10, x11, x12, x13, x14, x15, x16, x17, x18, x19, x20, x21, x22, e6, d6, e7, d7, e8, d8, e9, d9, e10, d10])
theorem LG.put3 {w : World} {A B C D E l a b x f g k c e : Nat} {w1 : World} (hyp : LG w A B C D E l a b x f g k c e w1) (v : Nat) : LG w A B C D E l a b v f g k c e (w1.setCell ⟨w.heap.size + 1 + 1 + 1, 0, none⟩ (.float .f64 v)) := by
  obtain ⟨x0, x1, x2, x3, x4, x5, x6, x7, x8, x9, x10, x11, x12, x13, x14, x15, x16, x17, x18, x19, x20, x21, x22, x23, x24, x25, x26, x27, x28⟩ := hyp
  have hB := x0.size
  obtain ⟨u4, s4⟩ := Option.isSome_iff_exists.1 x5
  obtain ⟨u5, s5⟩ := Option.isSome_iff_exists.1 x6
  have e6 : ¬ w.heap.size + 1 + 1 + 1 = A := by omega
  have d6 : ¬ A = w.heap.size + 1 + 1 + 1 := by omega
  have e7 : ¬ w.heap.size + 1 + 1 + 1 = B := by omega
  have d7 : ¬ B = w.heap.size + 1 + 1 + 1 := by omega
  have e8 : ¬ w.heap.size + 1 + 1 + 1 = C := by omega
  have d8 : ¬ C = w.heap.size + 1 + 1 + 1 := by omega
  have e9 : ¬ w.heap.size + 1 + 1 + 1 = D := by omega
  have d9 : ¬ D = w.heap.size + 1 + 1 + 1 := by omega
  have e10 : ¬ w.heap.size + 1 + 1 + 1 = E := by omega
  have d10 : ¬ E = w.heap.size + 1 + 1 + 1 := by omega
  refine ⟨x0.setCell (by show w.heap.size ≤ w.heap.size + 1 + 1 + 1; omega) _, ?_, ?_, ?_, ?_, ?_, ?_, ?_, ?_, ?_, ?_, ?_, ?_, ?_, ?_, ?_, ?_, ?_, ?_, ?_, ?_, ?_, ?_, x23, x24, x25, x26, x27, by simpa using x28⟩
  all_goals (set_option linter.unusedSimpArgs false in simp [go_sem, x1, x2, x3, x4, s4, s5, x7, x8, x9, x10, x11, x12, x13, x14, x15, x16, x17, x18, x19, x20, x21, x22, e6, d6, e7, d7, e8, d8, e9, d9, e10, d10])
theorem LG.put4 {w : World} {A B C D E l a b x f g k c e : Nat} {w1 : World} (hyp : LG w A B C D E l a b x f g k c e w1) (v : Value) : LG w A B C D E l a b x f g k c e (w1.setCell ⟨w.heap.size + 1 + 1 + 1 + 1, 0, none⟩ v) := by
  obtain ⟨x0, x1, x2, x3, x4, x5, x6, x7, x8, x9, x10, x11, x12, x13, x14, x15, x16, x17, x18, x19, x20, x21, x22, x23, x24, x25, x26, x27, x28⟩ := hyp
  have hB := x0.size
  obtain ⟨u4, s4⟩ := Option.isSome_iff_exists.1 x5
  obtain ⟨u5, s5⟩ := Option.isSome_iff_exists.1 x6
  have e6 : ¬ w.heap.size + 1 + 1 + 1 + 1 = A := by omega
  have d6 : ¬ A = w.heap.size + 1 + 1 + 1 + 1 := by omega
  have e7 : ¬ w.heap.size + 1 + 1 + 1 + 1 = B := by omega
  have d7 : ¬ B = w.heap.size + 1 + 1 + 1 + 1 := by omega
  have e8 : ¬ w.heap.size + 1 + 1 + 1 + 1 = C := by omega
  have d8 : ¬ C = w.heap.size + 1 + 1 + 1 + 1 := by omega
  have e9 : ¬ w.heap.size + 1 + 1 + 1 + 1 = D := by omega
  have d9 : ¬ D = w.heap.size + 1 + 1 + 1 + 1 := by omega
  have e10 : ¬ w.heap.size + 1 + 1 + 1 + 1 = E := by omega
  have d10 : ¬ E = w.heap.size + 1 + 1 + 1 + 1 := by omega
  refine ⟨x0.setCell (by show w.heap.size ≤ w.heap.size + 1 + 1 + 1 + 1; omega) _, ?_, ?_, ?_, ?_, ?_, ?_, ?_, ?_, ?_, ?_, ?_, ?_, ?_, ?_, ?_, ?_, ?_, ?_, ?_, ?_, ?_, ?_, x23, x24, x25, x26, x27, by simpa using x28⟩
  all_goals (set_option linter.unusedSimpArgs false in simp [go_sem, x1, x2, x3, x4, s4, s5, x7, x8, x9, x10, x11, x12, x13, x14, x15, x16, x17, x18, x19, x20, x21, x22, e6, d6, e7, d7, e8, d8, e9, d9, e10, d10])
theorem LG.put5 {w : World} {A B C D E l a b x f g k c e : Nat} {w1 : World} (hyp : LG w A B C D E l a b x f g k c e w1) (v : Value) : LG w A B C D E l a b x f g k c e (w1.setCell ⟨w.heap.size + 1 + 1 + 1 + 1 + 1, 0, none⟩ v) := by
  obtain ⟨x0, x1, x2, x3, x4, x5, x6, x7, x8, x9, x10, x11, x12, x13, x14, x15, x16, x17, x18, x19, x20, x21, x22, x23, x24, x25, x26, x27, x28⟩ := hyp
  have hB := x0.size
  obtain ⟨u4, s4⟩ := Option.isSome_iff_exists.1 x5
  obtain ⟨u5, s5⟩ := Option.isSome_iff_exists.1 x6
  have e6 : ¬ w.heap.size + 1 + 1 + 1 + 1 + 1 = A := by omega
  have d6 : ¬ A = w.heap.size + 1 + 1 + 1 + 1 + 1 := by omega
  have e7 : ¬ w.heap.size + 1 + 1 + 1 + 1 + 1 = B := by omega
  have d7 : ¬ B = w.heap.size + 1 + 1 + 1 + 1 + 1 := by omega
  have e8 : ¬ w.heap.size + 1 + 1 + 1 + 1 + 1 = C := by omega
  have d8 : ¬ C = w.heap.size + 1 + 1 + 1 + 1 + 1 := by omega
  have e9 : ¬ w.heap.size + 1 + 1 + 1 + 1 + 1 = D := by omega
  have d9 : ¬ D = w.heap.size + 1 + 1 + 1 + 1 + 1 := by omega
  have e10 : ¬ w.heap.size + 1 + 1 + 1 + 1 + 1 = E := by omega
  have d10 : ¬ E = w.heap.size + 1 + 1 + 1 + 1 + 1 := by omega
  refine ⟨x0.setCell (by show w.heap.size ≤ w.heap.size + 1 + 1 + 1 + 1 + 1; omega) _, ?_, ?_, ?_, ?_, ?_, ?_, ?_, ?_, ?_, ?_, ?_, ?_, ?_, ?_, ?_, ?_, ?_, ?_, ?_, ?_, ?_, ?_, x23, x24, x25, x26, x27, by simpa using x28⟩
  all_goals (set_option linter.unusedSimpArgs false in simp [go_sem, x1, x2, x3, x4, s4, s5, x7, x8, x9, x10, x11, x12, x13, x14, x15, x16, x17, x18, x19, x20, x21, x22, e6, d6, e7, d7, e8, d8, e9, d9, e10, d10])
theorem LG.put6 {w : World} {A B C D E l a b x f g k c e : Nat} {w1 : World} (hyp : LG w A B C D E l a b x f g k c e w1) (v : Nat) : LG w A B C D E l a b x v g k c e (w1.setCell ⟨A, 0, none⟩ (.float .f64 v)) := by
  obtain ⟨x0, x1, x2, x3, x4, x5, x6, x7, x8, x9, x10, x11, x12, x13, x14, x15, x16, x17, x18, x19, x20, x21, x22, x23, x24, x25, x26, x27, x28⟩ := hyp
  have hB := x0.size
  obtain ⟨u4, s4⟩ := Option.isSome_iff_exists.1 x5
  obtain ⟨u5, s5⟩ := Option.isSome_iff_exists.1 x6
  have e0 : ¬ A = w.heap.size := by omega
  have d0 : ¬ w.heap.size = A := by omega
  have e1 : ¬ A = w.heap.size + 1 := by omega
  have d1 : ¬ w.heap.size + 1 = A := by omega
  have e2 : ¬ A = w.heap.size + 1 + 1 := by omega
  have d2 : ¬ w.heap.size + 1 + 1 = A := by omega
  have e3 : ¬ A = w.heap.size + 1 + 1 + 1 := by omega
  have d3 : ¬ w.heap.size + 1 + 1 + 1 = A := by omega
  have e4 : ¬ A = w.heap.size + 1 + 1 + 1 + 1 := by omega
  have d4 : ¬ w.heap.size + 1 + 1 + 1 + 1 = A := by omega
  have e5 : ¬ A = w.heap.size + 1 + 1 + 1 + 1 + 1 := by omega
  have d5 : ¬ w.heap.size + 1 + 1 + 1 + 1 + 1 = A := by omega
  have e7 : ¬ A = B := by omega
  have d7 : ¬ B = A := by omega
  have e8 : ¬ A = C := by omega
  have d8 : ¬ C = A := by omega
  have e9 : ¬ A = D := by omega
  have d9 : ¬ D = A := by omega
  have e10 : ¬ A = E := by omega
  have d10 : ¬ E = A := by omega
  refine ⟨x0.setCell (by show w.heap.size ≤ A; omega) _, ?_, ?_, ?_, ?_, ?_, ?_, ?_, ?_, ?_, ?_, ?_, ?_, ?_, ?_, ?_, ?_, ?_, ?_, ?_, ?_, ?_, ?_, x23, x24, x25, x26, x27, by simpa using x28⟩
  all_goals (set_option linter.unusedSimpArgs false in simp [go_sem, x1, x2, x3, x4, s4, s5, x7, x8, x9, x10, x11, x12, x13, x14, x15, x16, x17, x18, x19, x20, x21, x22, e0, d0, e1, d1, e2, d2, e3, d3, e4, d4, e5, d5, e7, d7, e8, d8, e9, d9, e10, d10])
theorem LG.put7 {w : World} {A B C D E l a b x f g k c e : Nat} {w1 : World} (hyp : LG w A B C D E l a b x f g k c e w1) (v : Nat) : LG w A B C D E l a b x f v k c e (w1.setCell ⟨B, 0, none⟩ (.float .f64 v)) := by
  obtain ⟨x0, x1, x2, x3, x4, x5, x6, x7, x8, x9, x10, x11, x12, x13, x14, x15, x16, x17, x18, x19, x20, x21, x22, x23, x24, x25, x26, x27, x28⟩ := hyp
  have hB := x0.size
  obtain ⟨u4, s4⟩ := Option.isSome_iff_exists.1 x5
  obtain ⟨u5, s5⟩ := Option.isSome_iff_exists.1 x6
  have e0 : ¬ B = w.heap.size := by omega
  have d0 : ¬ w.heap.size = B := by omega
  have e1 : ¬ B = w.heap.size + 1 := by omega
  have d1 : ¬ w.heap.size + 1 = B := by omega
  have e2 : ¬ B = w.heap.size + 1 + 1 := by omega
  have d2 : ¬ w.heap.size + 1 + 1 = B := by omega
  have e3 : ¬ B = w.heap.size + 1 + 1 + 1 := by omega
  have d3 : ¬ w.heap.size + 1 + 1 + 1 = B := by omega
  have e4 : ¬ B = w.heap.size + 1 + 1 + 1 + 1 := by omega
  have d4 : ¬ w.heap.size + 1 + 1 + 1 + 1 = B := by omega
  have e5 : ¬ B = w.heap.size + 1 + 1 + 1 + 1 + 1 := by omega
  have d5 : ¬ w.heap.size + 1 + 1 + 1 + 1 + 1 = B := by omega
  have e6 : ¬ B = A := by omega
  have d6 : ¬ A = B := by omega
  have e8 : ¬ B = C := by omega
  have d8 : ¬ C = B := by omega
  have e9 : ¬ B = D := by omega
  have d9 : ¬ D = B := by omega
  have e10 : ¬ B = E := by omega
  have d10 : ¬ E = B := by omega
  refine ⟨x0.setCell (by show w.heap.size ≤ B; omega) _, ?_, ?_, ?_, ?_, ?_, ?_, ?_, ?_, ?_, ?_, ?_, ?_, ?_, ?_, ?_, ?_, ?_, ?_, ?_, ?_, ?_, ?_, x23, x24, x25, x26, x27, by simpa using x28⟩
  all_goals (set_option linter.unusedSimpArgs false in simp [go_sem, x1, x2, x3, x4, s4, s5, x7, x8, x9, x10, x11, x12, x13, x14, x15, x16, x17, x18, x19, x20, x21, x22, e0, d0, e1, d1, e2, d2, e3, d3, e4, d4, e5, d5, e6, d6, e8, d8, e9, d9, e10, d10])
theorem LG.put8 {w : World} {A B C D E l a b x f g k c e : Nat} {w1 : World} (hyp : LG w A B C D E l a b x f g k c e w1) (v : Nat) : LG w A B C D E l a b x f g v c e (w1.setCell ⟨C, 0, none⟩ (.float .f64 v)) := by
  obtain ⟨x0, x1, x2, x3, x4, x5, x6, x7, x8, x9, x10, x11, x12, x13, x14, x15, x16, x17, x18, x19, x20, x21, x22, x23, x24, x25, x26, x27, x28⟩ := hyp
  have hB := x0.size
  obtain ⟨u4, s4⟩ := Option.isSome_iff_exists.1 x5
  obtain ⟨u5, s5⟩ := Option.isSome_iff_exists.1 x6
  have e0 : ¬ C = w.heap.size := by omega
  have d0 : ¬ w.heap.size = C := by omega
  have e1 : ¬ C = w.heap.size + 1 := by omega
  have d1 : ¬ w.heap.size + 1 = C := by omega
  have e2 : ¬ C = w.heap.size + 1 + 1 := by omega
  have d2 : ¬ w.heap.size + 1 + 1 = C := by omega
  have e3 : ¬ C = w.heap.size + 1 + 1 + 1 := by omega
  have d3 : ¬ w.heap.size + 1 + 1 + 1 = C := by omega
  have e4 : ¬ C = w.heap.size + 1 + 1 + 1 + 1 := by omega
  have d4 : ¬ w.heap.size + 1 + 1 + 1 + 1 = C := by omega
  have e5 : ¬ C = w.heap.size + 1 + 1 + 1 + 1 + 1 := by omega
  have d5 : ¬ w.heap.size + 1 + 1 + 1 + 1 + 1 = C := by omega
  have e6 : ¬ C = A := by omega
  have d6 : ¬ A = C := by omega
  have e7 : ¬ C = B := by omega
  have d7 : ¬ B = C := by omega
  have e9 : ¬ C = D := by omega
  have d9 : ¬ D = C := by omega
  have e10 : ¬ C = E := by omega
  have d10 : ¬ E = C := by omega
  refine ⟨x0.setCell (by show w.heap.size ≤ C; omega) _, ?_, ?_, ?_, ?_, ?_, ?_, ?_, ?_, ?_, ?_, ?_, ?_, ?_, ?_, ?_, ?_, ?_, ?_, ?_, ?_, ?_, ?_, x23, x24, x25, x26, x27, by simpa using x28⟩
  all_goals (set_option linter.unusedSimpArgs false in simp [go_sem, x1, x2, x3, x4, s4, s5, x7, x8, x9, x10, x11, x12, x13, x14, x15, x16, x17, x18, x19, x20, x21, x22, e0, d0, e1, d1, e2, d2, e3, d3, e4, d4, e5, d5, e6, d6, e7, d7, e9, d9, e10, d10])
theorem LG.put9 {w : World} {A B C D E l a b x f g k c e : Nat} {w1 : World} (hyp : LG w A B C D E l a b x f g k c e w1) (v : Nat) : LG w A B C D E l a b x f g k v e (w1.setCell ⟨D, 0, none⟩ (.float .f64 v)) := by
  obtain ⟨x0, x1, x2, x3, x4, x5, x6, x7, x8, x9, x10, x11, x12, x13, x14, x15, x16, x17, x18, x19, x20, x21, x22, x23, x24, x25, x26, x27, x28⟩ := hyp
  have hB := x0.size
  obtain ⟨u4, s4⟩ := Option.isSome_iff_exists.1 x5
  obtain ⟨u5, s5⟩ := Option.isSome_iff_exists.1 x6
  have e0 : ¬ D = w.heap.size := by omega
  have d0 : ¬ w.heap.size = D := by omega
  have e1 : ¬ D = w.heap.size + 1 := by omega
  have d1 : ¬ w.heap.size + 1 = D := by omega
  have e2 : ¬ D = w.heap.size + 1 + 1 := by omega
  have d2 : ¬ w.heap.size + 1 + 1 = D := by omega
  have e3 : ¬ D = w.heap.size + 1 + 1 + 1 := by omega
  have d3 : ¬ w.heap.size + 1 + 1 + 1 = D := by omega
  have e4 : ¬ D = w.heap.size + 1 + 1 + 1 + 1 := by omega
  have d4 : ¬ w.heap.size + 1 + 1 + 1 + 1 = D := by omega
  have e5 : ¬ D = w.heap.size + 1 + 1 + 1 + 1 + 1 := by omega
  have d5 : ¬ w.heap.size + 1 + 1 + 1 + 1 + 1 = D := by omega
  have e6 : ¬ D = A := by omega
  have d6 : ¬ A = D := by omega
  have e7 : ¬ D = B := by omega
  have d7 : ¬ B = D := by omega
  have e8 : ¬ D = C := by omega
  have d8 : ¬ C = D := by omega
  have e10 : ¬ D = E := by omega
  have d10 : ¬ E = D := by omega
  refine ⟨x0.setCell (by show w.heap.size ≤ D; omega) _, ?_, ?_, ?_, ?_, ?_, ?_, ?_, ?_, ?_, ?_, ?_, ?_, ?_, ?_, ?_, ?_, ?_, ?_, ?_, ?_, ?_, ?_, x23, x24, x25, x26, x27, by simpa using x28⟩
  all_goals (set_option linter.unusedSimpArgs false in simp [go_sem, x1, x2, x3, x4, s4, s5, x7, x8, x9, x10, x11, x12, x13, x14, x15, x16, x17, x18, x19, x20, x21, x22, e0, d0, e1, d1, e2, d2, e3, d3, e4, d4, e5, d5, e6, d6, e7, d7, e8, d8, e10, d10])
theorem LG.put10 {w : World} {A B C D E l a b x f g k c e : Nat} {w1 : World} (hyp : LG w A B C D E l a b x f g k c e w1) (v : Nat) : LG w A B C D E l a b x f g k c v (w1.setCell ⟨E, 0, none⟩ (.float .f64 v)) := by
  obtain ⟨x0, x1, x2, x3, x4, x5, x6, x7, x8, x9, x10, x11, x12, x13, x14, x15, x16, x17, x18, x19, x20, x21, x22, x23, x24, x25, x26, x27, x28⟩ := hyp
  have hB := x0.size
  obtain ⟨u4, s4⟩ := Option.isSome_iff_exists.1 x5
  obtain ⟨u5, s5⟩ := Option.isSome_iff_exists.1 x6
  have e0 : ¬ E = w.heap.size := by omega
  have d0 : ¬ w.heap.size = E := by omega
  have e1 : ¬ E = w.heap.size + 1 := by omega
  have d1 : ¬ w.heap.size + 1 = E := by omega
  have e2 : ¬ E = w.heap.size + 1 + 1 := by omega
  have d2 : ¬ w.heap.size + 1 + 1 = E := by omega
  have e3 : ¬ E = w.heap.size + 1 + 1 + 1 := by omega
  have d3 : ¬ w.heap.size + 1 + 1 + 1 = E := by omega
  have e4 : ¬ E = w.heap.size + 1 + 1 + 1 + 1 := by omega
  have d4 : ¬ w.heap.size + 1 + 1 + 1 + 1 = E := by omega
  have e5 : ¬ E = w.heap.size + 1 + 1 + 1 + 1 + 1 := by omega
  have d5 : ¬ w.heap.size + 1 + 1 + 1 + 1 + 1 = E := by omega
  have e6 : ¬ E = A := by omega
  have d6 : ¬ A = E := by omega
  have e7 : ¬ E = B := by omega
  have d7 : ¬ B = E := by omega
  have e8 : ¬ E = C := by omega
  have d8 : ¬ C = E := by omega
  have e9 : ¬ E = D := by omega
  have d9 : ¬ D = E := by omega
  refine ⟨x0.setCell (by show w.heap.size ≤ E; omega) _, ?_, ?_, ?_, ?_, ?_, ?_, ?_, ?_, ?_, ?_, ?_, ?_, ?_, ?_, ?_, ?_, ?_, ?_, ?_, ?_, ?_, ?_, x23, x24, x25, x26, x27, by simpa using x28⟩
  all_goals (set_option linter.unusedSimpArgs false in simp [go_sem, x1, x2, x3, x4, s4, s5, x7, x8, x9, x10, x11, x12, x13, x14, x15, x16, x17, x18, x19, x20, x21, x22, e0, d0, e1, d1, e2, d2, e3, d3, e4, d4, e5, d5, e6, d6, e7, d7, e8, d8, e9, d9])
theorem LG.above {w : World} {A B C D E l a b x f g k c e : Nat} {w1 : World} {M0 : Nat} (hyp : LG w A B C D E l a b x f g k c e w1) (hM : E < M0) (v : Value) : LG w A B C D E l a b x f g k c e (w1.setCell ⟨M0, 0, none⟩ v) := by
  obtain ⟨x0, x1, x2, x3, x4, x5, x6, x7, x8, x9, x10, x11, x12, x13, x14, x15, x16, x17, x18, x19, x20, x21, x22, x23, x24, x25, x26, x27, x28⟩ := hyp
  have hB := x0.size
  obtain ⟨u4, s4⟩ := Option.isSome_iff_exists.1 x5
  obtain ⟨u5, s5⟩ := Option.isSome_iff_exists.1 x6
  have e0 : ¬ M0 = w.heap.size := by omega
  have d0 : ¬ w.heap.size = M0 := by omega
  have e1 : ¬ M0 = w.heap.size + 1 := by omega
  have d1 : ¬ w.heap.size + 1 = M0 := by omega
  have e2 : ¬ M0 = w.heap.size + 1 + 1 := by omega
  have d2 : ¬ w.heap.size + 1 + 1 = M0 := by omega
  have e3 : ¬ M0 = w.heap.size + 1 + 1 + 1 := by omega
  have d3 : ¬ w.heap.size + 1 + 1 + 1 = M0 := by omega
  have e4 : ¬ M0 = w.heap.size + 1 + 1 + 1 + 1 := by omega
  have d4 : ¬ w.heap.size + 1 + 1 + 1 + 1 = M0 := by omega
  have e5 : ¬ M0 = w.heap.size + 1 + 1 + 1 + 1 + 1 := by omega
  have d5 : ¬ w.heap.size + 1 + 1 + 1 + 1 + 1 = M0 := by omega
  have e6 : ¬ M0 = A := by omega
  have d6 : ¬ A = M0 := by omega
  have e7 : ¬ M0 = B := by omega
  have d7 : ¬ B = M0 := by omega
  have e8 : ¬ M0 = C := by omega
  have d8 : ¬ C = M0 := by omega
  have e9 : ¬ M0 = D := by omega
  have d9 : ¬ D = M0 := by omega
  have e10 : ¬ M0 = E := by omega
  have d10 : ¬ E = M0 := by omega
  refine ⟨x0.setCell (by show w.heap.size ≤ M0; omega) _, ?_, ?_, ?_, ?_, ?_, ?_, ?_, ?_, ?_, ?_, ?_, ?_, ?_, ?_, ?_, ?_, ?_, ?_, ?_, ?_, ?_, ?_, x23, x24, x25, x26, x27, by simpa using x28⟩
  all_goals (set_option linter.unusedSimpArgs false in simp [go_sem, x1, x2, x3, x4, s4, s5, x7, x8, x9, x10, x11, x12, x13, x14, x15, x16, x17, x18, x19, x20, x21, x22, e0, d0, e1, d1, e2, d2, e3, d3, e4, d4, e5, d5, e6, d6, e7, d7, e8, d8, e9, d9, e10, d10])
theorem LG.ex4 {w : World} {A B C D E l a b x f g k c e : Nat} {w1 : World} (hyp : LG w A B C D E l a b x f g k c e w1) : ∃ v, w1.cell? ⟨w.heap.size + 1 + 1 + 1 + 1, 0, none⟩ = Option.some v := Option.isSome_iff_exists.1 hyp.2.2.2.2.2.1
theorem LG.ex5 {w : World} {A B C D E l a b x f g k c e : Nat} {w1 : World} (hyp : LG w A B C D E l a b x f g k c e w1) : ∃ v, w1.cell? ⟨w.heap.size + 1 + 1 + 1 + 1 + 1, 0, none⟩ = Option.some v := Option.isSome_iff_exists.1 hyp.2.2.2.2.2.2.1
theorem LG.fill {w : World} {A B C D E l a b f g k c e : Nat} {w1 : World} (hyp : LF w A B C D E l a b f g k c e w1) (x : Nat) : LG w A B C D E l a b x f g k c e (w1.setCell ⟨w.heap.size + 1 + 1 + 1, 0, none⟩ (.float .f64 x)) := by
  obtain ⟨q, hq⟩ := hyp.ex3
  obtain ⟨x0, x1, x2, x3, x4, x5, x6, x7, x8, x9, x10, x11, x12, x13, x14, x15, x16, x17, x18, x19, x20, x21, x22, x23, x24, x25, x26, x27, x28⟩ := hyp.put3 (.float .f64 x)
  exact ⟨x0, x1, x2, x3, by simp [go_sem, hq], x5, x6, x7, x8, x9, x10, x11, x12, x13, x14, x15, x16, x17, x18, x19, x20, x21, x22, x23, x24, x25, x26, x27, x28⟩
def LH (w : World) (A B C D E l a b x y f g k c e : Nat) (w' : World) : Prop :=
  Below w.heap.size w w' ∧ w'.cell? ⟨w.heap.size, 0, none⟩ = some (.float .f64 l) ∧ w'.cell? ⟨w.heap.size + 1, 0, none⟩ = some (.float .f64 a) ∧ w'.cell? ⟨w.heap.size + 1 + 1, 0, none⟩ = some (.float .f64 b) ∧ w'.cell? ⟨w.heap.size + 1 + 1 + 1, 0, none⟩ = some (.float .f64 x) ∧ w'.cell? ⟨w.heap.size + 1 + 1 + 1 + 1, 0, none⟩ = some (.float .f64 y) ∧ (w'.cell? ⟨w.heap.size + 1 + 1 + 1 + 1 + 1, 0, none⟩).isSome = true ∧ w'.cell? ⟨A, 0, none⟩ = some (.float .f64 f) ∧ w'.cell? ⟨B, 0, none⟩ = some (.float .f64 g) ∧ w'.cell? ⟨C, 0, none⟩ = some (.float .f64 k) ∧ w'.cell? ⟨D, 0, none⟩ = some (.float .f64 c) ∧ w'.cell? ⟨E, 0, none⟩ = some (.float .f64 e) ∧ w'.frozen? ⟨w.heap.size, 0, none⟩ = false ∧ w'.frozen? ⟨w.heap.size + 1, 0, none⟩ = false ∧ w'.frozen? ⟨w.heap.size + 1 + 1, 0, none⟩ = false ∧ w'.frozen? ⟨w.heap.size + 1 + 1 + 1, 0, none⟩ = false ∧ w'.frozen? ⟨w.heap.size + 1 + 1 + 1 + 1, 0, none⟩ = false ∧ w'.frozen? ⟨w.heap.size + 1 + 1 + 1 + 1 + 1, 0, none⟩ = false ∧ w'.frozen? ⟨A, 0, none⟩ = false ∧ w'.frozen? ⟨B, 0, none⟩ = false ∧ w'.frozen? ⟨C, 0, none⟩ = false ∧ w'.frozen? ⟨D, 0, none⟩ = false ∧ w'.frozen? ⟨E, 0, none⟩ = false ∧ w.heap.size + 1 + 1 + 1 + 1 + 1 < A ∧ A < B ∧ B < C ∧ C < D ∧ D < E ∧ E < w'.heap.size
theorem LH.step {w : World} {A B C D E l a b x y f g k c e : Nat} {w1 w2 : World} (hyp : LH w A B C D E l a b x y f g k c e w1) (hb : Below w1.heap.size w1 w2) : LH w A B C D E l a b x y f g k c e w2 := by
  obtain ⟨x0, x1, x2, x3, x4, x5, x6, x7, x8, x9, x10, x11, x12, x13, x14, x15, x16, x17, x18, x19, x20, x21, x22, x23, x24, x25, x26, x27, x28⟩ := hyp
  have hc : ∀ b o, b < w1.heap.size → w2.cell? ⟨b, o, none⟩ = w1.cell? ⟨b, o, none⟩ := fun b o h => hb.cell (p := ⟨b, o, none⟩) h
  have hf : ∀ b o, b < w1.heap.size → w2.frozen? ⟨b, o, none⟩ = w1.frozen? ⟨b, o, none⟩ := fun b o h => hb.frozen (p := ⟨b, o, none⟩) h
  have hz := hb.size
  have hB := x0.size
  exact ⟨x0.trans (hb.mono (by omega)), by rw [hc _ _ (by omega)]; exact x1, by rw [hc _ _ (by omega)]; exact x2, by rw [hc _ _ (by omega)]; exact x3, by rw [hc _ _ (by omega)]; exact x4, by rw [hc _ _ (by omega)]; exact x5, by rw [hc _ _ (by omega)]; exact x6, by rw [hc _ _ (by omega)]; exact x7, by rw [hc _ _ (by omega)]; exact x8, by rw [hc _ _ (by omega)]; exact x9, by rw [hc _ _ (by omega)]; exact x10, by rw [hc _ _ (by omega)]; exact x11, by rw [hf _ _ (by omega)]; exact x12, by rw [hf _ _ (by omega)]; exact x13, by rw [hf _ _ (by omega)]; exact x14, by rw [hf _ _ (by omega)]; exact x15, by rw [hf _ _ (by omega)]; exact x16, by rw [hf _ _ (by omega)]; exact x17, by rw [hf _ _ (by omega)]; exact x18, by rw [hf _ _ (by omega)]; exact x19, by rw [hf _ _ (by omega)]; exact x20, by rw [hf _ _ (by omega)]; exact x21, by rw [hf _ _ (by omega)]; exact x22, x23, x24, x25, x26, x27, by omega⟩
theorem LH.put0 {w : World} {A B C D E l a b x y f g k c e : Nat} {w1 : World} (hyp : LH w A B C D E l a b x y f g k c e w1) (v : Nat) : LH w A B C D E v a b x y f g k c e (w1.setCell ⟨w.heap.size, 0, none⟩ (.float .f64 v)) := by
  obtain ⟨x0, x1, x2, x3, x4, x5, x6, x7, x8, x9, x10, x11, x12, x13, x14, x15, x16, x17, x18, x19, x20, x21, x22, x23, x24, x25, x26, x27, x28⟩ := hyp
  have hB := x0.size
  obtain ⟨u5, s5⟩ := Option.isSome_iff_exists.1 x6
  have e6 : ¬ w.heap.size = A := by omega
  have d6 : ¬ A = w.heap.size := by omega
  have e7 : ¬ w.heap.size = B := by omega
  have d7 : ¬ B = w.heap.size := by omega
  have e8 : ¬ w.heap.size = C := by omega
  have d8 : ¬ C = w.heap.size := by omega
  have e9 : ¬ w.heap.size = D := by omega
  have d9 : ¬ D = w.heap.size := by omega
  have e10 : ¬ w.heap.size = E := by omega
  have d10 : ¬ E = w.heap.size := by omega
  refine ⟨x0.setCell (by show w.heap.size ≤ w.heap.size; omega) _, ?_, ?_, ?_, ?_, ?_, ?_, ?_, ?_, ?_, ?_, ?_, ?_, ?_, ?_, ?_, ?_, ?_, ?_, ?_, ?_, ?_, ?_, x23, x24, x25, x26, x27, by simpa using x28⟩
  all_goals (set_option linter.unusedSimpArgs false in simp [go_sem, x1, x2, x3, x4, x5, s5, x7, x8, x9, x10, x11, x12, x13, x14, x15, x16, x17, x18, x19, x20, x21, x22, e6, d6, e7, d7, e8, d8, e9, d9, e10, d10])
theorem LH.put1 {w : World} {A B C D E l a b x y f g k c e : Nat} {w1 : World} (hyp : LH w A B C D E l a b x y f g k c e w1) (v : Nat) : LH w A B C D E l v b x y f g k c e (w1.setCell ⟨w.heap.size + 1, 0, none⟩ (.float .f64 v)) := by
  obtain ⟨x0, x1, x2, x3, x4, x5, x6, x7, x8, x9, x10, x11, x12, x13, x14, x15, x16, x17, x18, x19, x20, x21, x22, x23, x24, x25, x26, x27, x28⟩ := hyp
  have hB := x0.size
  obtain ⟨u5, s5⟩ := Option.isSome_iff_exists.1 x6
  have e6 : ¬ w.heap.size + 1 = A := by omega
  have d6 : ¬ A = w.heap.size + 1 := by omega
  have e7 : ¬ w.heap.size + 1 = B := by omega
  have d7 : ¬ B = w.heap.size + 1 := by omega
  have e8 : ¬ w.heap.size + 1 = C := by omega
  have d8 : ¬ C = w.heap.size + 1 := by omega
  have e9 : ¬ w.heap.size + 1 = D := by omega
  have d9 : ¬ D = w.heap.size + 1 := by omega
  have e10 : ¬ w.heap.size + 1 = E := by omega
  have d10 : ¬ E = w.heap.size + 1 := by omega
  refine ⟨x0.setCell (by show w.heap.size ≤ w.heap.size + 1; omega) _, ?_, ?_, ?_, ?_, ?_, ?_, ?_, ?_, ?_, ?_, ?_, ?_, ?_, ?_, ?_, ?_, ?_, ?_, ?_, ?_, ?_, ?_, x23, x24, x25, x26, x27, by simpa using x28⟩
  all_goals (set_option linter.unusedSimpArgs false in simp [go_sem, x1, x2, x3, x4, x5, s5, x7, x8, x9, x10, x11, x12, x13, x14, x15, x16, x17, x18, x19, x20, x21, x22, e6, d6, e7, d7, e8, d8, e9, d9, e10, d10])
theorem LH.put2 {w : World} {A B C D E l a b x y f g k c e : Nat} {w1 : World} (hyp : LH w A B C D E l a b x y f g k c e w1) (v : Nat) : LH w A B C D E l a v x y f g k c e (w1.setCell ⟨w.heap.size + 1 + 1, 0, none⟩ (.float .f64 v)) := by
  obtain ⟨x0, x1, x2, x3, x4, x5, x6, x7, x8, x9, x10, x11, x12, x13, x14, x15, x16, x17, x18, x19, x20, x21, x22, x23, x24, x25, x26, x27, x28⟩ := hyp
  have hB := x0.size
  obtain ⟨u5, s5⟩ := Option.isSome_iff_exists.1 x6
  have e6 : ¬ w.heap.size + 1 + 1 = A := by omega
  have d6 : ¬ A = w.heap.size + 1 + 1 := by omega
  have e7 : ¬ w.heap.size + 1 + 1 = B := by omega
  have d7 : ¬ B = w.heap.size + 1 + 1 := by omega
  have e8 : ¬ w.heap.size + 1 + 1 = C := by omega
  have d8 : ¬ C = w.heap.size + 1 + 1 := by omega
  have e9 : ¬ w.heap.size + 1 + 1 = D := by omega
  have d9 : ¬ D = w.heap.size + 1 + 1 := by omega
  have e10 : ¬ w.heap.size + 1 + 1 = E := by omega
  have d10 : ¬ E = w.heap.size + 1 + 1 := by omega
  refine ⟨x0.setCell (by show w.heap.size ≤ w.heap.size + 1 + 1; omega) _, ?_, ?_, ?_, ?_, ?_, ?_, ?_, ?_, ?_, ?_, ?_, ?_, ?_, ?_, ?_, ?_, ?_, ?_, ?_, ?_, ?_, ?_, x23, x24, x25, x26, x27, by simpa using x28⟩
  all_goals (set_option linter.unusedSimpArgs false in simp [go_sem, x1, x2, x3, x4, x5, s5, x7, x8, x9, x10, x11, x12, x13, x14, x15, x16, x17, x18, x19, x20, x21, x22, e6, d6, e7, d7, e8, d8, e9, d9, e10, d10])
theorem LH.put3 {w : World} {A B C D E l a b x y f g k c e : Nat} {w1 : World} (hyp : LH w A B C D E l a b x y f g k c e w1) (v : Nat) : LH w A B C D E l a b v y f g k c e (w1.setCell ⟨w.heap.size + 1 + 1 + 1, 0, none⟩ (.float .f64 v)) := by
  obtain ⟨x0, x1, x2, x3, x4, x5, x6, x7, x8, x9, x10, x11, x12, x13, x14, x15, x16, x17, x18, x19, x20, x21, x22, x23, x24, x25, x26, x27, x28⟩ := hyp
  have hB := x0.size
  obtain ⟨u5, s5⟩ := Option.isSome_iff_exists.1 x6
  have e6 : ¬ w.heap.size + 1 + 1 + 1 = A := by omega
  have d6 : ¬ A = w.heap.size + 1 + 1 + 1 := by omega
  have e7 : ¬ w.heap.size + 1 + 1 + 1 = B := by omega
  have d7 : ¬ B = w.heap.size + 1 + 1 + 1 := by omega
  have e8 : ¬ w.heap.size + 1 + 1 + 1 = C := by omega
  have d8 : ¬ C = w.heap.size + 1 + 1 + 1 := by omega
  have e9 : ¬ w.heap.size + 1 + 1 + 1 = D := by omega
  have d9 : ¬ D = w.heap.size + 1 + 1 + 1 := by omega
  have e10 : ¬ w.heap.size + 1 + 1 + 1 = E := by omega
  have d10 : ¬ E = w.heap.size + 1 + 1 + 1 := by omega
  refine ⟨x0.setCell (by show w.heap.size ≤ w.heap.size + 1 + 1 + 1; omega) _, ?_, ?_, ?_, ?_, ?_, ?_, ?_, ?_, ?_, ?_, ?_, ?_, ?_, ?_, ?_, ?_, ?_, ?_, ?_, ?_, ?_, ?_, x23, x24, x25, x26, x27, by simpa using x28⟩
  all_goals (set_option linter.unusedSimpArgs false in simp [go_sem, x1, x2, x3, x4, x5, s5, x7, x8, x9, x10, x11, x12, x13, x14, x15, x16, x17, x18, x19, x20, x21, x22, e6, d6, e7, d7, e8, d8, e9, d9, e10, d10])
theorem LH.put4 {w : World} {A B C D E l a b x y f g k c e : Nat} {w1 : World} (hyp : LH w A B C D E l a b x y f g k c e w1) (v : Nat) : LH w A B C D E l a b x v f g k c e (w1.setCell ⟨w.heap.size + 1 + 1 + 1 + 1, 0, none⟩ (.float .f64 v)) := by
  obtain ⟨x0, x1, x2, x3, x4, x5, x6, x7, x8, x9, x10, x11, x12, x13, x14, x15, x16, x17, x18, x19, x20, x21, x22, x23, x24, x25, x26, x27, x28⟩ := hyp
  have hB := x0.size
  obtain ⟨u5, s5⟩ := Option.isSome_iff_exists.1 x6
  have e6 : ¬ w.heap.size + 1 + 1 + 1 + 1 = A := by omega
  have d6 : ¬ A = w.heap.size + 1 + 1 + 1 + 1 := by omega
  have e7 : ¬ w.heap.size + 1 + 1 + 1 + 1 = B := by omega
  have d7 : ¬ B = w.heap.size + 1 + 1 + 1 + 1 := by omega
  have e8 : ¬ w.heap.size + 1 + 1 + 1 + 1 = C := by omega
  have d8 : ¬ C = w.heap.size + 1 + 1 + 1 + 1 := by omega
  have e9 : ¬ w.heap.size + 1 + 1 + 1 + 1 = D := by omega
  have d9 : ¬ D = w.heap.size + 1 + 1 + 1 + 1 := by omega
  have e10 : ¬ w.heap.size + 1 + 1 + 1 + 1 = E := by omega
  have d10 : ¬ E = w.heap.size + 1 + 1 + 1 + 1 := by omega
  refine ⟨x0.setCell (by show w.heap.size ≤ w.heap.size + 1 + 1 + 1 + 1; omega) _, ?_, ?_, ?_, ?_, ?_, ?_, ?_, ?_, ?_, ?_, ?_, ?_, ?_, ?_, ?_, ?_, ?_, ?_, ?_, ?_, ?_, ?_, x23, x24, x25, x26, x27, by simpa using x28⟩
  all_goals (set_option linter.unusedSimpArgs false in simp [go_sem, x1, x2, x3, x4, x5, s5, x7, x8, x9, x10, x11, x12, x13, x14, x15, x16, x17, x18, x19, x20, x21, x22, e6, d6, e7, d7, e8, d8, e9, d9, e10, d10])
theorem LH.put5 {w : World} {A B C D E l a b x y f g k c e : Nat} {w1 : World} (hyp : LH w A B C D E l a b x y f g k c e w1) (v : Value) : LH w A B C D E l a b x y f g k c e (w1.setCell ⟨w.heap.size + 1 + 1 + 1 + 1 + 1, 0, none⟩ v) := by
  obtain ⟨x0, x1, x2, x3, x4, x5, x6, x7, x8, x9, x10, x11, x12, x13, x14, x15, x16, x17, x18, x19, x20, x21, x22, x23, x24, x25, x26, x27, x28⟩ := hyp
  have hB := x0.size
  obtain ⟨u5, s5⟩ := Option.isSome_iff_exists.1 x6
  have e6 : ¬ w.heap.size + 1 + 1 + 1 + 1 + 1 = A := by omega
  have d6 : ¬ A = w.heap.size + 1 + 1 + 1 + 1 + 1 := by omega
  have e7 : ¬ w.heap.size + 1 + 1 + 1 + 1 + 1 = B := by omega
  have d7 : ¬ B = w.heap.size + 1 + 1 + 1 + 1 + 1 := by omega
  have e8 : ¬ w.heap.size + 1 + 1 + 1 + 1 + 1 = C := by omega
  have d8 : ¬ C = w.heap.size + 1 + 1 + 1 + 1 + 1 := by omega
  have e9 : ¬ w.heap.size + 1 + 1 + 1 + 1 + 1 = D := by omega
  have d9 : ¬ D = w.heap.size + 1 + 1 + 1 + 1 + 1 := by omega
  have e10 : ¬ w.heap.size + 1 + 1 + 1 + 1 + 1 = E := by omega
  have d10 : ¬ E = w.heap.size + 1 + 1 + 1 + 1 + 1 := by omega
  refine ⟨x0.setCell (by show w.heap.size ≤ w.heap.size + 1 + 1 + 1 + 1 + 1; omega) _, ?_, ?_, ?_, ?_, ?_, ?_, ?_, ?_, ?_, ?_, ?_, ?_, ?_, ?_, ?_, ?_, ?_, ?_, ?_, ?_, ?_, ?_, x23, x24, x25, x26, x27, by simpa using x28⟩
  all_goals (set_option linter.unusedSimpArgs false in simp [go_sem, x1, x2, x3, x4, x5, s5, x7, x8, x9, x10, x11, x12, x13, x14, x15, x16, x17, x18, x19, x20, x21, x22, e6, d6, e7, d7, e8, d8, e9, d9, e10, d10])
theorem LH.put6 {w : World} {A B C D E l a b x y f g k c e : Nat} {w1 : World} (hyp : LH w A B C D E l a b x y f g k c e w1) (v : Nat) : LH w A B C D E l a b x y v g k c e (w1.setCell ⟨A, 0, none⟩ (.float .f64 v)) := by
  obtain ⟨x0, x1, x2, x3, x4, x5, x6, x7, x8, x9, x10, x11, x12, x13, x14, x15, x16, x17, x18, x19, x20, x21, x22, x23, x24, x25, x26, x27, x28⟩ := hyp
  have hB := x0.size
  obtain ⟨u5, s5⟩ := Option.isSome_iff_exists.1 x6
  have e0 : ¬ A = w.heap.size := by omega
  have d0 : ¬ w.heap.size = A := by omega
  have e1 : ¬ A = w.heap.size + 1 := by omega
  have d1 : ¬ w.heap.size + 1 = A := by omega
  have e2 : ¬ A = w.heap.size + 1 + 1 := by omega
  have d2 : ¬ w.heap.size + 1 + 1 = A := by omega
  have e3 : ¬ A = w.heap.size + 1 + 1 + 1 := by omega
  have d3 : ¬ w.heap.size + 1 + 1 + 1 = A := by omega
  have e4 : ¬ A = w.heap.size + 1 + 1 + 1 + 1 := by omega
  have d4 : ¬ w.heap.size + 1 + 1 + 1 + 1 = A := by omega
  have e5 : ¬ A = w.heap.size + 1 + 1 + 1 + 1 + 1 := by omega
  have d5 : ¬ w.heap.size + 1 + 1 + 1 + 1 + 1 = A := by omega
  have e7 : ¬ A = B := by omega
  have d7 : ¬ B = A := by omega
  have e8 : ¬ A = C := by omega
  have d8 : ¬ C = A := by omega
  have e9 : ¬ A = D := by omega
  have d9 : ¬ D = A := by omega
  have e10 : ¬ A = E := by omega
  have d10 : ¬ E = A := by omega
  refine ⟨x0.setCell (by show w.heap.size ≤ A; omega) _, ?_, ?_, ?_, ?_, ?_, ?_, ?_, ?_, ?_, ?_, ?_, ?_, ?_, ?_, ?_, ?_, ?_, ?_, ?_, ?_, ?_, ?_, x23, x24, x25, x26, x27, by simpa using x28⟩
  all_goals (set_option linter.unusedSimpArgs false in simp [go_sem, x1, x2, x3, x4, x5, s5, x7, x8, x9, x10, x11, x12, x13, x14, x15, x16, x17, x18, x19, x20, x21, x22, e0, d0, e1, d1, e2, d2, e3, d3, e4, d4, e5, d5, e7, d7, e8, d8, e9, d9, e10, d10])
theorem LH.put7 {w : World} {A B C D E l a b x y f g k c e : Nat} {w1 : World} (hyp : LH w A B C D E l a b x y f g k c e w1) (v : Nat) : LH w A B C D E l a b x y f v k c e (w1.setCell ⟨B, 0, none⟩ (.float .f64 v)) := by
  obtain ⟨x0, x1, x2, x3, x4, x5, x6, x7, x8, x9, x10, x11, x12, x13, x14, x15, x16, x17, x18, x19, x20, x21, x22, x23, x24, x25, x26, x27, x28⟩ := hyp
  have hB := x0.size
  obtain ⟨u5, s5⟩ := Option.isSome_iff_exists.1 x6
  have e0 : ¬ B = w.heap.size := by omega
  have d0 : ¬ w.heap.size = B := by omega
  have e1 : ¬ B = w.heap.size + 1 := by omega
  have d1 : ¬ w.heap.size + 1 = B := by omega
  have e2 : ¬ B = w.heap.size + 1 + 1 := by omega
  have d2 : ¬ w.heap.size + 1 + 1 = B := by omega
  have e3 : ¬ B = w.heap.size + 1 + 1 + 1 := by omega
  have d3 : ¬ w.heap.size + 1 + 1 + 1 = B := by omega
  have e4 : ¬ B = w.heap.size + 1 + 1 + 1 + 1 := by omega
  have d4 : ¬ w.heap.size + 1 + 1 + 1 + 1 = B := by omega
  have e5 : ¬ B = w.heap.size + 1 + 1 + 1 + 1 + 1 := by omega
  have d5 : ¬ w.heap.size + 1 + 1 + 1 + 1 + 1 = B := by omega
  have e6 : ¬ B = A := by omega
  have d6 : ¬ A = B := by omega
  have e8 : ¬ B = C := by omega
  have d8 : ¬ C = B := by omega
  have e9 : ¬ B = D := by omega
  have d9 : ¬ D = B := by omega
  have e10 : ¬ B = E := by omega
  have d10 : ¬ E = B := by omega
  refine ⟨x0.setCell (by show w.heap.size ≤ B; omega) _, ?_, ?_, ?_, ?_, ?_, ?_, ?_, ?_, ?_, ?_, ?_, ?_, ?_, ?_, ?_, ?_, ?_, ?_, ?_, ?_, ?_, ?_, x23, x24, x25, x26, x27, by simpa using x28⟩
  all_goals (set_option linter.unusedSimpArgs false in simp [go_sem, x1, x2, x3, x4, x5, s5, x7, x8, x9, x10, x11, x12, x13, x14, x15, x16, x17, x18, x19, x20, x21, x22, e0, d0, e1, d1, e2, d2, e3, d3, e4, d4, e5, d5, e6, d6, e8, d8, e9, d9, e10, d10])
theorem LH.put8 {w : World} {A B C D E l a b x y f g k c e : Nat} {w1 : World} (hyp : LH w A B C D E l a b x y f g k c e w1) (v : Nat) : LH w A B C D E l a b x y f g v c e (w1.setCell ⟨C, 0, none⟩ (.float .f64 v)) := by
  obtain ⟨x0, x1, x2, x3, x4, x5, x6, x7, x8, x9, x10, x11, x12, x13, x14, x15, x16, x17, x18, x19, x20, x21, x22, x23, x24, x25, x26, x27, x28⟩ := hyp
  have hB := x0.size
  obtain ⟨u5, s5⟩ := Option.isSome_iff_exists.1 x6
  have e0 : ¬ C = w.heap.size := by omega
  have d0 : ¬ w.heap.size = C := by omega
  have e1 : ¬ C = w.heap.size + 1 := by omega
  have d1 : ¬ w.heap.size + 1 = C := by omega
  have e2 : ¬ C = w.heap.size + 1 + 1 := by omega
  have d2 : ¬ w.heap.size + 1 + 1 = C := by omega
  have e3 : ¬ C = w.heap.size + 1 + 1 + 1 := by omega
  have d3 : ¬ w.heap.size + 1 + 1 + 1 = C := by omega
  have e4 : ¬ C = w.heap.size + 1 + 1 + 1 + 1 := by omega
  have d4 : ¬ w.heap.size + 1 + 1 + 1 + 1 = C := by omega
  have e5 : ¬ C = w.heap.size + 1 + 1 + 1 + 1 + 1 := by omega
  have d5 : ¬ w.heap.size + 1 + 1 + 1 + 1 + 1 = C := by omega
  have e6 : ¬ C = A := by omega
  have d6 : ¬ A = C := by omega
  have e7 : ¬ C = B := by omega
  have d7 : ¬ B = C := by omega
  have e9 : ¬ C = D := by omega
  have d9 : ¬ D = C := by omega
  have e10 : ¬ C = E := by omega
  have d10 : ¬ E = C := by omega
  refine ⟨x0.setCell (by show w.heap.size ≤ C; omega) _, ?_, ?_, ?_, ?_, ?_, ?_, ?_, ?_, ?_, ?_, ?_, ?_, ?_, ?_, ?_, ?_, ?_, ?_, ?_, ?_, ?_, ?_, x23, x24, x25, x26, x27, by simpa using x28⟩
  all_goals (set_option linter.unusedSimpArgs false in simp [go_sem, x1, x2, x3, x4, x5, s5, x7, x8, x9, x10, x11, x12, x13, x14, x15, x16, x17, x18, x19, x20, x21, x22, e0, d0, e1, d1, e2, d2, e3, d3, e4, d4, e5, d5, e6, d6, e7, d7, e9, d9, e10, d10])
theorem LH.put9 {w : World} {A B C D E l a b x y f g k c e : Nat} {w1 : World} (hyp : LH w A B C D E l a b x y f g k c e w1) (v : Nat) : LH w A B C D E l a b x y f g k v e (w1.setCell ⟨D, 0, none⟩ (.float .f64 v)) := by
  obtain ⟨x0, x1, x2, x3, x4, x5, x6, x7, x8, x9, x10, x11, x12, x13, x14, x15, x16, x17, x18, x19, x20, x21, x22, x23, x24, x25, x26, x27, x28⟩ := hyp
  have hB := x0.size
  obtain ⟨u5, s5⟩ := Option.isSome_iff_exists.1 x6
  have e0 : ¬ D = w.heap.size := by omega
  have d0 : ¬ w.heap.size = D := by omega
  have e1 : ¬ D = w.heap.size + 1 := by omega
  have d1 : ¬ w.heap.size + 1 = D := by omega
  have e2 : ¬ D = w.heap.size + 1 + 1 := by omega
  have d2 : ¬ w.heap.size + 1 + 1 = D := by omega
  have e3 : ¬ D = w.heap.size + 1 + 1 + 1 := by omega
  have d3 : ¬ w.heap.size + 1 + 1 + 1 = D := by omega
  have e4 : ¬ D = w.heap.size + 1 + 1 + 1 + 1 := by omega
  have d4 : ¬ w.heap.size + 1 + 1 + 1 + 1 = D := by omega
  have e5 : ¬ D = w.heap.size + 1 + 1 + 1 + 1 + 1 := by omega
  have d5 : ¬ w.heap.size + 1 + 1 + 1 + 1 + 1 = D := by omega
  have e6 : ¬ D = A := by omega
  have d6 : ¬ A = D := by omega
  have e7 : ¬ D = B := by omega
  have d7 : ¬ B = D := by omega
  have e8 : ¬ D = C := by omega
  have d8 : ¬ C = D := by omega
  have e10 : ¬ D = E := by omega
  have d10 : ¬ E = D := by omega
  refine ⟨x0.setCell (by show w.heap.size ≤ D; omega) _, ?_, ?_, ?_, ?_, ?_, ?_, ?_, ?_, ?_, ?_, ?_, ?_, ?_, ?_, ?_, ?_, ?_, ?_, ?_, ?_, ?_, ?_, x23, x24, x25, x26, x27, by simpa using x28⟩
  all_goals (set_option linter.unusedSimpArgs false in simp [go_sem, x1, x2, x3, x4, x5, s5, x7, x8, x9, x10, x11, x12, x13, x14, x15, x16, x17, x18, x19, x20, x21, x22, e0, d0, e1, d1, e2, d2, e3, d3, e4, d4, e5, d5, e6, d6, e7, d7, e8, d8, e10, d10])
theorem LH.put10 {w : World} {A B C D E l a b x y f g k c e : Nat} {w1 : World} (hyp : LH w A B C D E l a b x y f g k c e w1) (v : Nat) : LH w A B C D E l a b x y f g k c v (w1.setCell ⟨E, 0, none⟩ (.float .f64 v)) := by
  obtain ⟨x0, x1, x2, x3, x4, x5, x6, x7, x8, x9, x10, x11, x12, x13, x14, x15, x16, x17, x18, x19, x20, x21, x22, x23, x24, x25, x26, x27, x28⟩ := hyp
  have hB := x0.size
  obtain ⟨u5, s5⟩ := Option.isSome_iff_exists.1 x6
  have e0 : ¬ E = w.heap.size := by omega
  have d0 : ¬ w.heap.size = E := by omega
  have e1 : ¬ E = w.heap.size + 1 := by omega
  have d1 : ¬ w.heap.size + 1 = E := by omega
  have e2 : ¬ E = w.heap.size + 1 + 1 := by omega
  have d2 : ¬ w.heap.size + 1 + 1 = E := by omega
  have e3 : ¬ E = w.heap.size + 1 + 1 + 1 := by omega
  have d3 : ¬ w.heap.size + 1 + 1 + 1 = E := by omega
  have e4 : ¬ E = w.heap.size + 1 + 1 + 1 + 1 := by omega
  have d4 : ¬ w.heap.size + 1 + 1 + 1 + 1 = E := by omega
  have e5 : ¬ E = w.heap.size + 1 + 1 + 1 + 1 + 1 := by omega
  have d5 : ¬ w.heap.size + 1 + 1 + 1 + 1 + 1 = E := by omega
  have e6 : ¬ E = A := by omega
  have d6 : ¬ A = E := by omega
  have e7 : ¬ E = B := by omega
  have d7 : ¬ B = E := by omega
  have e8 : ¬ E = C := by omega
  have d8 : ¬ C = E := by omega
  have e9 : ¬ E = D := by omega
  have d9 : ¬ D = E := by omega
  refine ⟨x0.setCell (by show w.heap.size ≤ E; omega) _, ?_, ?_, ?_, ?_, ?_, ?_, ?_, ?_, ?_, ?_, ?_, ?_, ?_, ?_, ?_, ?_, ?_, ?_, ?_, ?_, ?_, ?_, x23, x24, x25, x26, x27, by simpa using x28⟩
  all_goals (set_option linter.unusedSimpArgs false in simp [go_sem, x1, x2, x3, x4, x5, s5, x7, x8, x9, x10, x11, x12, x13, x14, x15, x16, x17, x18, x19, x20, x21, x22, e0, d0, e1, d1, e2, d2, e3, d3, e4, d4, e5, d5, e6, d6, e7, d7, e8, d8, e9, d9])
theorem LH.above {w : World} {A B C D E l a b x y f g k c e : Nat} {w1 : World} {M0 : Nat} (hyp : LH w A B C D E l a b x y f g k c e w1) (hM : E < M0) (v : Value) : LH w A B C D E l a b x y f g k c e (w1.setCell ⟨M0, 0, none⟩ v) := by
  obtain ⟨x0, x1, x2, x3, x4, x5, x6, x7, x8, x9, x10, x11, x12, x13, x14, x15, x16, x17, x18, x19, x20, x21, x22, x23, x24, x25, x26, x27, x28⟩ := hyp
  have hB := x0.size
  obtain ⟨u5, s5⟩ := Option.isSome_iff_exists.1 x6
  have e0 : ¬ M0 = w.heap.size := by omega
  have d0 : ¬ w.heap.size = M0 := by omega
  have e1 : ¬ M0 = w.heap.size + 1 := by omega
  have d1 : ¬ w.heap.size + 1 = M0 := by omega
  have e2 : ¬ M0 = w.heap.size + 1 + 1 := by omega
  have d2 : ¬ w.heap.size + 1 + 1 = M0 := by omega
  have e3 : ¬ M0 = w.heap.size + 1 + 1 + 1 := by omega
  have d3 : ¬ w.heap.size + 1 + 1 + 1 = M0 := by omega
  have e4 : ¬ M0 = w.heap.size + 1 + 1 + 1 + 1 := by omega
  have d4 : ¬ w.heap.size + 1 + 1 + 1 + 1 = M0 := by omega
  have e5 : ¬ M0 = w.heap.size + 1 + 1 + 1 + 1 + 1 := by omega
  have d5 : ¬ w.heap.size + 1 + 1 + 1 + 1 + 1 = M0 := by omega
  have e6 : ¬ M0 = A := by omega
  have d6 : ¬ A = M0 := by omega
  have e7 : ¬ M0 = B := by omega
  have d7 : ¬ B = M0 := by omega
  have e8 : ¬ M0 = C := by omega
  have d8 : ¬ C = M0 := by omega
  have e9 : ¬ M0 = D := by omega
  have d9 : ¬ D = M0 := by omega
  have e10 : ¬ M0 = E := by omega
  have d10 : ¬ E = M0 := by omega
  refine ⟨x0.setCell (by show w.heap.size ≤ M0; omega) _, ?_, ?_, ?_, ?_, ?_, ?_, ?_, ?_, ?_, ?_, ?_, ?_, ?_, ?_, ?_, ?_, ?_, ?_, ?_, ?_, ?_, ?_, x23, x24, x25, x26, x27, by simpa using x28⟩
  all_goals (set_option linter.unusedSimpArgs false in simp [go_sem, x1, x2, x3, x4, x5, s5, x7, x8, x9, x10, x11, x12, x13, x14, x15, x16, x17, x18, x19, x20, x21, x22, e0, d0, e1, d1, e2, d2, e3, d3, e4, d4, e5, d5, e6, d6, e7, d7, e8, d8, e9, d9, e10, d10])
theorem LH.ex5 {w : World} {A B C D E l a b x y f g k c e : Nat} {w1 : World} (hyp : LH w A B C D E l a b x y f g k c e w1) : ∃ v, w1.cell? ⟨w.heap.size + 1 + 1 + 1 + 1 + 1, 0, none⟩ = Option.some v := Option.isSome_iff_exists.1 hyp.2.2.2.2.2.2.1
theorem LH.fill {w : World} {A B C D E l a b x f g k c e : Nat} {w1 : World} (hyp : LG w A B C D E l a b x f g k c e w1) (y : Nat) : LH w A B C D E l a b x y f g k c e (w1.setCell ⟨w.heap.size + 1 + 1 + 1 + 1, 0, none⟩ (.float .f64 y)) := by
  obtain ⟨q, hq⟩ := hyp.ex4
  obtain ⟨x0, x1, x2, x3, x4, x5, x6, x7, x8, x9, x10, x11, x12, x13, x14, x15, x16, x17, x18, x19, x20, x21, x22, x23, x24, x25, x26, x27, x28⟩ := hyp.put4 (.float .f64 y)
  exact ⟨x0, x1, x2, x3, x4, by simp [go_sem, hq], x6, x7, x8, x9, x10, x11, x12, x13, x14, x15, x16, x17, x18, x19, x20, x21, x22, x23, x24, x25, x26, x27, x28⟩
def LI (w : World) (A B C D E l a b x y z f g k c e : Nat) (w' : World) : Prop :=
  Below w.heap.size w w' ∧ w'.cell? ⟨w.heap.size, 0, none⟩ = some (.float .f64 l) ∧ w'.cell? ⟨w.heap.size + 1, 0, none⟩ = some (.float .f64 a) ∧ w'.cell? ⟨w.heap.size + 1 + 1, 0, none⟩ = some (.float .f64 b) ∧ w'.cell? ⟨w.heap.size + 1 + 1 + 1, 0, none⟩ = some (.float .f64 x) ∧ w'.cell? ⟨w.heap.size + 1 + 1 + 1 + 1, 0, none⟩ = some (.float .f64 y) ∧ w'.cell? ⟨w.heap.size + 1 + 1 + 1 + 1 + 1, 0, none⟩ = some (.float .f64 z) ∧ w'.cell? ⟨A, 0, none⟩ = some (.float .f64 f) ∧ w'.cell? ⟨B, 0, none⟩ = some (.float .f64 g) ∧ w'.cell? ⟨C, 0, none⟩ = some (.float .f64 k) ∧ w'.cell? ⟨D, 0, none⟩ = some (.float .f64 c) ∧ w'.cell? ⟨E, 0, none⟩ = some (.float .f64 e) ∧ w'.frozen? ⟨w.heap.size, 0, none⟩ = false ∧ w'.frozen? ⟨w.heap.size + 1, 0, none⟩ = false ∧ w'.frozen? ⟨w.heap.size + 1 + 1, 0, none⟩ = false ∧ w'.frozen? ⟨w.heap.size + 1 + 1 + 1, 0, none⟩ = false ∧ w'.frozen? ⟨w.heap.size + 1 + 1 + 1 + 1, 0, none⟩ = false ∧ w'.frozen? ⟨w.heap.size + 1 + 1 + 1 + 1 + 1, 0, none⟩ = false ∧ w'.frozen? ⟨A, 0, none⟩ = false ∧ w'.frozen? ⟨B, 0, none⟩ = false ∧ w'.frozen? ⟨C, 0, none⟩ = false ∧ w'.frozen? ⟨D, 0, none⟩ = false ∧ w'.frozen? ⟨E, 0, none⟩ = false ∧ w.heap.size + 1 + 1 + 1 + 1 + 1 < A ∧ A < B ∧ B < C ∧ C < D ∧ D < E ∧ E < w'.heap.size
theorem LI.step {w : World} {A B C D E l a b x y z f g k c e : Nat} {w1 w2 : World} (hyp : LI w A B C D E l a b x y z f g k c e w1) (hb : Below w1.heap.size w1 w2) : LI w A B C D E l a b x y z f g k c e w2 := by
  obtain ⟨x0, x1, x2, x3, x4, x5, x6, x7, x8, x9, x10, x11, x12, x13, x14, x15, x16, x17, x18, x19, x20, x21, x22, x23, x24, x25, x26, x27, x28⟩ := hyp
  have hc : ∀ b o, b < w1.heap.size → w2.cell? ⟨b, o, none⟩ = w1.cell? ⟨b, o, none⟩ := fun b o h => hb.cell (p := ⟨b, o, none⟩) h
  have hf : ∀ b o, b < w1.heap.size → w2.frozen? ⟨b, o, none⟩ = w1.frozen? ⟨b, o, none⟩ := fun b o h => hb.frozen (p := ⟨b, o, none⟩) h
  have hz := hb.size
  have hB := x0.size
  exact ⟨x0.trans (hb.mono (by omega)), by rw [hc _ _ (by omega)]; exact x1, by rw [hc _ _ (by omega)]; exact x2, by rw [hc _ _ (by omega)]; exact x3, by rw [hc _ _ (by omega)]; exact x4, by rw [hc _ _ (by omega)]; exact x5, by rw [hc _ _ (by omega)]; exact x6, by rw [hc _ _ (by omega)]; exact x7, by rw [hc _ _ (by omega)]; exact x8, by rw [hc _ _ (by omega)]; exact x9, by rw [hc _ _ (by omega)]; exact x10, by rw [hc _ _ (by omega)]; exact x11, by rw [hf _ _ (by omega)]; exact x12, by rw [hf _ _ (by omega)]; exact x13, by rw [hf _ _ (by omega)]; exact x14, by rw [hf _ _ (by omega)]; exact x15, by rw [hf _ _ (by omega)]; exact x16, by rw [hf _ _ (by omega)]; exact x17, by rw [hf _ _ (by omega)]; exact x18, by rw [hf _ _ (by omega)]; exact x19, by rw [hf _ _ (by omega)]; exact x20, by rw [hf _ _ (by omega)]; exact x21, by rw [hf _ _ (by omega)]; exact x22, x23, x24, x25, x26, x27, by omega⟩
theorem LI.put0 {w : World} {A B C D E l a b x y z f g k c e : Nat} {w1 : World} (hyp : LI w A B C D E l a b x y z f g k c e w1) (v : Nat) : LI w A B C D E v a b x y z f g k c e (w1.setCell ⟨w.heap.size, 0, none⟩ (.float .f64 v)) := by
  obtain ⟨x0, x1, x2, x3, x4, x5, x6, x7, x8, x9, x10, x11, x12, x13, x14, x15, x16, x17, x18, x19, x20, x21, x22, x23, x24, x25, x26, x27, x28⟩ := hyp
  have hB := x0.size
  have e6 : ¬ w.heap.size = A := by omega
  have d6 : ¬ A = w.heap.size := by omega
  have e7 : ¬ w.heap.size = B := by omega
  have d7 : ¬ B = w.heap.size := by omega
  have e8 : ¬ w.heap.size = C := by omega
  have d8 : ¬ C = w.heap.size := by omega
  have e9 : ¬ w.heap.size = D := by omega
  have d9 : ¬ D = w.heap.size := by omega
  have e10 : ¬ w.heap.size = E := by omega
  have d10 : ¬ E = w.heap.size := by omega
  refine ⟨x0.setCell (by show w.heap.size ≤ w.heap.size; omega) _, ?_, ?_, ?_, ?_, ?_, ?_, ?_, ?_, ?_, ?_, ?_, ?_, ?_, ?_, ?_, ?_, ?_, ?_, ?_, ?_, ?_, ?_, x23, x24, x25, x26, x27, by simpa using x28⟩
  all_goals (set_option linter.unusedSimpArgs false in simp [go_sem, x1, x2, x3, x4, x5, x6, x7, x8, x9, x10, x11, x12, x13, x14, x15, x16, x17, x18, x19, x20, x21, x22, e6, d6, e7, d7, e8, d8, e9, d9, e10, d10])
theorem LI.put1 {w : World} {A B C D E l a b x y z f g k c e : Nat} {w1 : World} (hyp : LI w A B C D E l a b x y z f g k c e w1) (v : Nat) : LI w A B C D E l v b x y z f g k c e (w1.setCell ⟨w.heap.size + 1, 0, none⟩ (.float .f64 v)) := by
  obtain ⟨x0, x1, x2, x3, x4, x5, x6, x7, x8, x9, x10, x11, x12, x13, x14, x15, x16, x17, x18, x19, x20, x21, x22, x23, x24, x25, x26, x27, x28⟩ := hyp
  have hB := x0.size
  have e6 : ¬ w.heap.size + 1 = A := by omega
  have d6 : ¬ A = w.heap.size + 1 := by omega
  have e7 : ¬ w.heap.size + 1 = B := by omega
  have d7 : ¬ B = w.heap.size + 1 := by omega
  have e8 : ¬ w.heap.size + 1 = C := by omega
  have d8 : ¬ C = w.heap.size + 1 := by omega
  have e9 : ¬ w.heap.size + 1 = D := by omega
  have d9 : ¬ D = w.heap.size + 1 := by omega
  have e10 : ¬ w.heap.size + 1 = E := by omega
  have d10 : ¬ E = w.heap.size + 1 := by omega
  refine ⟨x0.setCell (by show w.heap.size ≤ w.heap.size + 1; omega) _, ?_, ?_, ?_, ?_, ?_, ?_, ?_, ?_, ?_, ?_, ?_, ?_, ?_, ?_, ?_, ?_, ?_, ?_, ?_, ?_, ?_, ?_, x23, x24, x25, x26, x27, by simpa using x28⟩
  all_goals (set_option linter.unusedSimpArgs false in simp [go_sem, x1, x2, x3, x4, x5, x6, x7, x8, x9, x10, x11, x12, x13, x14, x15, x16, x17, x18, x19, x20, x21, x22, e6, d6, e7, d7, e8, d8, e9, d9, e10, d10])
theorem LI.put2 {w : World} {A B C D E l a b x y z f g k c e : Nat} {w1 : World} (hyp : LI w A B C D E l a b x y z f g k c e w1) (v : Nat) : LI w A B C D E l a v x y z f g k c e (w1.setCell ⟨w.heap.size + 1 + 1, 0, none⟩ (.float .f64 v)) := by
  obtain ⟨x0, x1, x2, x3, x4, x5, x6, x7, x8, x9, x10, x11, x12, x13, x14, x15, x16, x17, x18, x19, x20, x21, x22, x23, x24, x25, x26, x27, x28⟩ := hyp
  have hB := x0.size
  have e6 : ¬ w.heap.size + 1 + 1 = A := by omega
  have d6 : ¬ A = w.heap.size + 1 + 1 := by omega
  have e7 : ¬ w.heap.size + 1 + 1 = B := by omega
  have d7 : ¬ B = w.heap.size + 1 + 1 := by omega
  have e8 : ¬ w.heap.size + 1 + 1 = C := by omega
  have d8 : ¬ C = w.heap.size + 1 + 1 := by omega
  have e9 : ¬ w.heap.size + 1 + 1 = D := by omega
  have d9 : ¬ D = w.heap.size + 1 + 1 := by omega
  have e10 : ¬ w.heap.size + 1 + 1 = E := by omega
  have d10 : ¬ E = w.heap.size + 1 + 1 := by omega
  refine ⟨x0.setCell (by show w.heap.size ≤ w.heap.size + 1 + 1; omega) _, ?_, ?_, ?_, ?_, ?_, ?_, ?_, ?_, ?_, ?_, ?_, ?_, ?_, ?_, ?_, ?_, ?_, ?_, ?_, ?_, ?_, ?_, x23, x24, x25, x26, x27, by simpa using x28⟩
  all_goals (set_option linter.unusedSimpArgs false in simp [go_sem, x1, x2, x3, x4, x5, x6, x7, x8, x9, x10, x11, x12, x13, x14, x15, x16, x17, x18, x19, x20, x21, x22, e6, d6, e7, d7, e8, d8, e9, d9, e10, d10])
theorem LI.put3 {w : World} {A B C D E l a b x y z f g k c e : Nat} {w1 : World} (hyp : LI w A B C D E l a b x y z f g k c e w1) (v : Nat) : LI w A B C D E l a b v y z f g k c e (w1.setCell ⟨w.heap.size + 1 + 1 + 1, 0, none⟩ (.float .f64 v)) := by
  obtain ⟨x0, x1, x2, x3, x4, x5, x6, x7, x8, x9, x10, x11, x12, x13, x14, x15, x16, x17, x18, x19, x20, x21, x22, x23, x24, x25, x26, x27, x28⟩ := hyp
  have hB := x0.size
  have e6 : ¬ w.heap.size + 1 + 1 + 1 = A := by omega
  have d6 : ¬ A = w.heap.size + 1 + 1 + 1 := by omega
  have e7 : ¬ w.heap.size + 1 + 1 + 1 = B := by omega
  have d7 : ¬ B = w.heap.size + 1 + 1 + 1 := by omega
  have e8 : ¬ w.heap.size + 1 + 1 + 1 = C := by omega
  have d8 : ¬ C = w.heap.size + 1 + 1 + 1 := by omega
  have e9 : ¬ w.heap.size + 1 + 1 + 1 = D := by omega
  have d9 : ¬ D = w.heap.size + 1 + 1 + 1 := by omega
  have e10 : ¬ w.heap.size + 1 + 1 + 1 = E := by omega
  have d10 : ¬ E = w.heap.size + 1 + 1 + 1 := by omega
  refine ⟨x0.setCell (by show w.heap.size ≤ w.heap.size + 1 + 1 + 1; omega) _, ?_, ?_, ?_, ?_, ?_, ?_, ?_, ?_, ?_, ?_, ?_, ?_, ?_, ?_, ?_, ?_, ?_, ?_, ?_, ?_, ?_, ?_, x23, x24, x25, x26, x27, by simpa using x28⟩
  all_goals (set_option linter.unusedSimpArgs false in simp [go_sem, x1, x2, x3, x4, x5, x6, x7, x8, x9, x10, x11, x12, x13, x14, x15, x16, x17, x18, x19, x20, x21, x22, e6, d6, e7, d7, e8, d8, e9, d9, e10, d10])
theorem LI.put4 {w : World} {A B C D E l a b x y z f g k c e : Nat} {w1 : World} (hyp : LI w A B C D E l a b x y z f g k c e w1) (v : Nat) : LI w A B C D E l a b x v z f g k c e (w1.setCell ⟨w.heap.size + 1 + 1 + 1 + 1, 0, none⟩ (.float .f64 v)) := by
  obtain ⟨x0, x1, x2, x3, x4, x5, x6, x7, x8, x9, x10, x11, x12, x13, x14, x15, x16, x17, x18, x19, x20, x21, x22, x23, x24, x25, x26, x27, x28⟩ := hyp
  have hB := x0.size
  have e6 : ¬ w.heap.size + 1 + 1 + 1 + 1 = A := by omega
  have d6 : ¬ A = w.heap.size + 1 + 1 + 1 + 1 := by omega
  have e7 : ¬ w.heap.size + 1 + 1 + 1 + 1 = B := by omega
  have d7 : ¬ B = w.heap.size + 1 + 1 + 1 + 1 := by omega
  have e8 : ¬ w.heap.size + 1 + 1 + 1 + 1 = C := by omega
  have d8 : ¬ C = w.heap.size + 1 + 1 + 1 + 1 := by omega
  have e9 : ¬ w.heap.size + 1 + 1 + 1 + 1 = D := by omega
  have d9 : ¬ D = w.heap.size + 1 + 1 + 1 + 1 := by omega
  have e10 : ¬ w.heap.size + 1 + 1 + 1 + 1 = E := by omega
  have d10 : ¬ E = w.heap.size + 1 + 1 + 1 + 1 := by omega
  refine ⟨x0.setCell (by show w.heap.size ≤ w.heap.size + 1 + 1 + 1 + 1; omega) _, ?_, ?_, ?_, ?_, ?_, ?_, ?_, ?_, ?_, ?_, ?_, ?_, ?_, ?_, ?_, ?_, ?_, ?_, ?_, ?_, ?_, ?_, x23, x24, x25, x26, x27, by simpa using x28⟩
  all_goals (set_option linter.unusedSimpArgs false in simp [go_sem, x1, x2, x3, x4, x5, x6, x7, x8, x9, x10, x11, x12, x13, x14, x15, x16, x17, x18, x19, x20, x21, x22, e6, d6, e7, d7, e8, d8, e9, d9, e10, d10])
theorem LI.put5 {w : World} {A B C D E l a b x y z f g k c e : Nat} {w1 : World} (hyp : LI w A B C D E l a b x y z f g k c e w1) (v : Nat) : LI w A B C D E l a b x y v f g k c e (w1.setCell ⟨w.heap.size + 1 + 1 + 1 + 1 + 1, 0, none⟩ (.float .f64 v)) := by
  obtain ⟨x0, x1, x2, x3, x4, x5, x6, x7, x8, x9, x10, x11, x12, x13, x14, x15, x16, x17, x18, x19, x20, x21, x22, x23, x24, x25, x26, x27, x28⟩ := hyp
  have hB := x0.size
  have e6 : ¬ w.heap.size + 1 + 1 + 1 + 1 + 1 = A := by omega
  have d6 : ¬ A = w.heap.size + 1 + 1 + 1 + 1 + 1 := by omega
  have e7 : ¬ w.heap.size + 1 + 1 + 1 + 1 + 1 = B := by omega
  have d7 : ¬ B = w.heap.size + 1 + 1 + 1 + 1 + 1 := by omega
  have e8 : ¬ w.heap.size + 1 + 1 + 1 + 1 + 1 = C := by omega
  have d8 : ¬ C = w.heap.size + 1 + 1 + 1 + 1 + 1 := by omega
  have e9 : ¬ w.heap.size + 1 + 1 + 1 + 1 + 1 = D := by omega
  have d9 : ¬ D = w.heap.size + 1 + 1 + 1 + 1 + 1 := by omega
  have e10 : ¬ w.heap.size + 1 + 1 + 1 + 1 + 1 = E := by omega
  have d10 : ¬ E = w.heap.size + 1 + 1 + 1 + 1 + 1 := by omega
  refine ⟨x0.setCell (by show w.heap.size ≤ w.heap.size + 1 + 1 + 1 + 1 + 1; omega) _, ?_, ?_, ?_, ?_, ?_, ?_, ?_, ?_, ?_, ?_, ?_, ?_, ?_, ?_, ?_, ?_, ?_, ?_, ?_, ?_, ?_, ?_, x23, x24, x25, x26, x27, by simpa using x28⟩
  all_goals (set_option linter.unusedSimpArgs false in simp [go_sem, x1, x2, x3, x4, x5, x6, x7, x8, x9, x10, x11, x12, x13, x14, x15, x16, x17, x18, x19, x20, x21, x22, e6, d6, e7, d7, e8, d8, e9, d9, e10, d10])
theorem LI.put6 {w : World} {A B C D E l a b x y z f g k c e : Nat} {w1 : World} (hyp : LI w A B C D E l a b x y z f g k c e w1) (v : Nat) : LI w A B C D E l a b x y z v g k c e (w1.setCell ⟨A, 0, none⟩ (.float .f64 v)) := by
  obtain ⟨x0, x1, x2, x3, x4, x5, x6, x7, x8, x9, x10, x11, x12, x13, x14, x15, x16, x17, x18, x19, x20, x21, x22, x23, x24, x25, x26, x27, x28⟩ := hyp
  have hB := x0.size
  have e0 : ¬ A = w.heap.size := by omega
  have d0 : ¬ w.heap.size = A := by omega
  have e1 : ¬ A = w.heap.size + 1 := by omega
  have d1 : ¬ w.heap.size + 1 = A := by omega
  have e2 : ¬ A = w.heap.size + 1 + 1 := by omega
  have d2 : ¬ w.heap.size + 1 + 1 = A := by omega
  have e3 : ¬ A = w.heap.size + 1 + 1 + 1 := by omega
  have d3 : ¬ w.heap.size + 1 + 1 + 1 = A := by omega
  have e4 : ¬ A = w.heap.size + 1 + 1 + 1 + 1 := by omega
  have d4 : ¬ w.heap.size + 1 + 1 + 1 + 1 = A := by omega
  have e5 : ¬ A = w.heap.size + 1 + 1 + 1 + 1 + 1 := by omega
  have d5 : ¬ w.heap.size + 1 + 1 + 1 + 1 + 1 = A := by omega
  have e7 : ¬ A = B := by omega
  have d7 : ¬ B = A := by omega
  have e8 : ¬ A = C := by omega
  have d8 : ¬ C = A := by omega
  have e9 : ¬ A = D := by omega
  have d9 : ¬ D = A := by omega
  have e10 : ¬ A = E := by omega
  have d10 : ¬ E = A := by omega
  refine ⟨x0.setCell (by show w.heap.size ≤ A; omega) _, ?_, ?_, ?_, ?_, ?_, ?_, ?_, ?_, ?_, ?_, ?_, ?_, ?_, ?_, ?_, ?_, ?_, ?_, ?_, ?_, ?_, ?_, x23, x24, x25, x26, x27, by simpa using x28⟩
  all_goals (set_option linter.unusedSimpArgs false in simp [go_sem, x1, x2, x3, x4, x5, x6, x7, x8, x9, x10, x11, x12, x13, x14, x15, x16, x17, x18, x19, x20, x21, x22, e0, d0, e1, d1, e2, d2, e3, d3, e4, d4, e5, d5, e7, d7, e8, d8, e9, d9, e10, d10])
theorem LI.put7 {w : World} {A B C D E l a b x y z f g k c e : Nat} {w1 : World} (hyp : LI w A B C D E l a b x y z f g k c e w1) (v : Nat) : LI w A B C D E l a b x y z f v k c e (w1.setCell ⟨B, 0, none⟩ (.float .f64 v)) := by
  obtain ⟨x0, x1, x2, x3, x4, x5, x6, x7, x8, x9, x10, x11, x12, x13, x14, x15, x16, x17, x18, x19, x20, x21, x22, x23, x24, x25, x26, x27, x28⟩ := hyp
  have hB := x0.size
  have e0 : ¬ B = w.heap.size := by omega
  have d0 : ¬ w.heap.size = B := by omega
  have e1 : ¬ B = w.heap.size + 1 := by omega
  have d1 : ¬ w.heap.size + 1 = B := by omega
  have e2 : ¬ B = w.heap.size + 1 + 1 := by omega
  have d2 : ¬ w.heap.size + 1 + 1 = B := by omega
  have e3 : ¬ B = w.heap.size + 1 + 1 + 1 := by omega
  have d3 : ¬ w.heap.size + 1 + 1 + 1 = B := by omega
  have e4 : ¬ B = w.heap.size + 1 + 1 + 1 + 1 := by omega
  have d4 : ¬ w.heap.size + 1 + 1 + 1 + 1 = B := by omega
  have e5 : ¬ B = w.heap.size + 1 + 1 + 1 + 1 + 1 := by omega
  have d5 : ¬ w.heap.size + 1 + 1 + 1 + 1 + 1 = B := by omega
  have e6 : ¬ B = A := by omega
  have d6 : ¬ A = B := by omega
  have e8 : ¬ B = C := by omega
  have d8 : ¬ C = B := by omega
  have e9 : ¬ B = D := by omega
  have d9 : ¬ D = B := by omega
  have e10 : ¬ B = E := by omega
  have d10 : ¬ E = B := by omega
  refine ⟨x0.setCell (by show w.heap.size ≤ B; omega) _, ?_, ?_, ?_, ?_, ?_, ?_, ?_, ?_, ?_, ?_, ?_, ?_, ?_, ?_, ?_, ?_, ?_, ?_, ?_, ?_, ?_, ?_, x23, x24, x25, x26, x27, by simpa using x28⟩
  all_goals (set_option linter.unusedSimpArgs false in simp [go_sem, x1, x2, x3, x4, x5, x6, x7, x8, x9, x10, x11, x12, x13, x14, x15, x16, x17, x18, x19, x20, x21, x22, e0, d0, e1, d1, e2, d2, e3, d3, e4, d4, e5, d5, e6, d6, e8, d8, e9, d9, e10, d10])
theorem LI.put8 {w : World} {A B C D E l a b x y z f g k c e : Nat} {w1 : World} (hyp : LI w A B C D E l a b x y z f g k c e w1) (v : Nat) : LI w A B C D E l a b x y z f g v c e (w1.setCell ⟨C, 0, none⟩ (.float .f64 v)) := by
  obtain ⟨x0, x1, x2, x3, x4, x5, x6, x7, x8, x9, x10, x11, x12, x13, x14, x15, x16, x17, x18, x19, x20, x21, x22, x23, x24, x25, x26, x27, x28⟩ := hyp
  have hB := x0.size
  have e0 : ¬ C = w.heap.size := by omega
  have d0 : ¬ w.heap.size = C := by omega
  have e1 : ¬ C = w.heap.size + 1 := by omega
  have d1 : ¬ w.heap.size + 1 = C := by omega
  have e2 : ¬ C = w.heap.size + 1 + 1 := by omega
  have d2 : ¬ w.heap.size + 1 + 1 = C := by omega
  have e3 : ¬ C = w.heap.size + 1 + 1 + 1 := by omega
  have d3 : ¬ w.heap.size + 1 + 1 + 1 = C := by omega
  have e4 : ¬ C = w.heap.size + 1 + 1 + 1 + 1 := by omega
  have d4 : ¬ w.heap.size + 1 + 1 + 1 + 1 = C := by omega
  have e5 : ¬ C = w.heap.size + 1 + 1 + 1 + 1 + 1 := by omega
  have d5 : ¬ w.heap.size + 1 + 1 + 1 + 1 + 1 = C := by omega
  have e6 : ¬ C = A := by omega
  have d6 : ¬ A = C := by omega
  have e7 : ¬ C = B := by omega
  have d7 : ¬ B = C := by omega
  have e9 : ¬ C = D := by omega
  have d9 : ¬ D = C := by omega
  have e10 : ¬ C = E := by omega
  have d10 : ¬ E = C := by omega
  refine ⟨x0.setCell (by show w.heap.size ≤ C; omega) _, ?_, ?_, ?_, ?_, ?_, ?_, ?_, ?_, ?_, ?_, ?_, ?_, ?_, ?_, ?_, ?_, ?_, ?_, ?_, ?_, ?_, ?_, x23, x24, x25, x26, x27, by simpa using x28⟩
  all_goals (set_option linter.unusedSimpArgs false in simp [go_sem, x1, x2, x3, x4, x5, x6, x7, x8, x9, x10, x11, x12, x13, x14, x15, x16, x17, x18, x19, x20, x21, x22, e0, d0, e1, d1, e2, d2, e3, d3, e4, d4, e5, d5, e6, d6, e7, d7, e9, d9, e10, d10])
theorem LI.put9 {w : World} {A B C D E l a b x y z f g k c e : Nat} {w1 : World} (hyp : LI w A B C D E l a b x y z f g k c e w1) (v : Nat) : LI w A B C D E l a b x y z f g k v e (w1.setCell ⟨D, 0, none⟩ (.float .f64 v)) := by
  obtain ⟨x0, x1, x2, x3, x4, x5, x6, x7, x8, x9, x10, x11, x12, x13, x14, x15, x16, x17, x18, x19, x20, x21, x22, x23, x24, x25, x26, x27, x28⟩ := hyp
  have hB := x0.size
  have e0 : ¬ D = w.heap.size := by omega
  have d0 : ¬ w.heap.size = D := by omega
  have e1 : ¬ D = w.heap.size + 1 := by omega
  have d1 : ¬ w.heap.size + 1 = D := by omega
  have e2 : ¬ D = w.heap.size + 1 + 1 := by omega
  have d2 : ¬ w.heap.size + 1 + 1 = D := by omega
  have e3 : ¬ D = w.heap.size + 1 + 1 + 1 := by omega
  have d3 : ¬ w.heap.size + 1 + 1 + 1 = D := by omega
  have e4 : ¬ D = w.heap.size + 1 + 1 + 1 + 1 := by omega
  have d4 : ¬ w.heap.size + 1 + 1 + 1 + 1 = D := by omega
  have e5 : ¬ D = w.heap.size + 1 + 1 + 1 + 1 + 1 := by omega
  have d5 : ¬ w.heap.size + 1 + 1 + 1 + 1 + 1 = D := by omega
  have e6 : ¬ D = A := by omega
  have d6 : ¬ A = D := by omega
  have e7 : ¬ D = B := by omega
  have d7 : ¬ B = D := by omega
  have e8 : ¬ D = C := by omega
  have d8 : ¬ C = D := by omega
  have e10 : ¬ D = E := by omega
  have d10 : ¬ E = D := by omega
  refine ⟨x0.setCell (by show w.heap.size ≤ D; omega) _, ?_, ?_, ?_, ?_, ?_, ?_, ?_, ?_, ?_, ?_, ?_, ?_, ?_, ?_, ?_, ?_, ?_, ?_, ?_, ?_, ?_, ?_, x23, x24, x25, x26, x27, by simpa using x28⟩
  all_goals (set_option linter.unusedSimpArgs false in simp [go_sem, x1, x2, x3, x4, x5, x6, x7, x8, x9, x10, x11, x12, x13, x14, x15, x16, x17, x18, x19, x20, x21, x22, e0, d0, e1, d1, e2, d2, e3, d3, e4, d4, e5, d5, e6, d6, e7, d7, e8, d8, e10, d10])
theorem LI.put10 {w : World} {A B C D E l a b x y z f g k c e : Nat} {w1 : World} (hyp : LI w A B C D E l a b x y z f g k c e w1) (v : Nat) : LI w A B C D E l a b x y z f g k c v (w1.setCell ⟨E, 0, none⟩ (.float .f64 v)) := by
  obtain ⟨x0, x1, x2, x3, x4, x5, x6, x7, x8, x9, x10, x11, x12, x13, x14, x15, x16, x17, x18, x19, x20, x21, x22, x23, x24, x25, x26, x27, x28⟩ := hyp
  have hB := x0.size
  have e0 : ¬ E = w.heap.size := by omega
  have d0 : ¬ w.heap.size = E := by omega
  have e1 : ¬ E = w.heap.size + 1 := by omega
  have d1 : ¬ w.heap.size + 1 = E := by omega
  have e2 : ¬ E = w.heap.size + 1 + 1 := by omega
  have d2 : ¬ w.heap.size + 1 + 1 = E := by omega
  have e3 : ¬ E = w.heap.size + 1 + 1 + 1 := by omega
  have d3 : ¬ w.heap.size + 1 + 1 + 1 = E := by omega
  have e4 : ¬ E = w.heap.size + 1 + 1 + 1 + 1 := by omega
  have d4 : ¬ w.heap.size + 1 + 1 + 1 + 1 = E := by omega
  have e5 : ¬ E = w.heap.size + 1 + 1 + 1 + 1 + 1 := by omega
  have d5 : ¬ w.heap.size + 1 + 1 + 1 + 1 + 1 = E := by omega
  have e6 : ¬ E = A := by omega
  have d6 : ¬ A = E := by omega
  have e7 : ¬ E = B := by omega
  have d7 : ¬ B = E := by omega
  have e8 : ¬ E = C := by omega
  have d8 : ¬ C = E := by omega
  have e9 : ¬ E = D := by omega
  have d9 : ¬ D = E := by omega
  refine ⟨x0.setCell (by show w.heap.size ≤ E; omega) _, ?_, ?_, ?_, ?_, ?_, ?_, ?_, ?_, ?_, ?_, ?_, ?_, ?_, ?_, ?_, ?_, ?_, ?_, ?_, ?_, ?_, ?_, x23, x24, x25, x26, x27, by simpa using x28⟩
  all_goals (set_option linter.unusedSimpArgs false in simp [go_sem, x1, x2, x3, x4, x5, x6, x7, x8, x9, x10, x11, x12, x13, x14, x15, x16, x17, x18, x19, x20, x21, x22, e0, d0, e1, d1, e2, d2, e3, d3, e4, d4, e5, d5, e6, d6, e7, d7, e8, d8, e9, d9])
theorem LI.above {w : World} {A B C D E l a b x y z f g k c e : Nat} {w1 : World} {M0 : Nat} (hyp : LI w A B C D E l a b x y z f g k c e w1) (hM : E < M0) (v : Value) : LI w A B C D E l a b x y z f g k c e (w1.setCell ⟨M0, 0, none⟩ v) := by
  obtain ⟨x0, x1, x2, x3, x4, x5, x6, x7, x8, x9, x10, x11, x12, x13, x14, x15, x16, x17, x18, x19, x20, x21, x22, x23, x24, x25, x26, x27, x28⟩ := hyp
  have hB := x0.size
  have e0 : ¬ M0 = w.heap.size := by omega
  have d0 : ¬ w.heap.size = M0 := by omega
  have e1 : ¬ M0 = w.heap.size + 1 := by omega
  have d1 : ¬ w.heap.size + 1 = M0 := by omega
  have e2 : ¬ M0 = w.heap.size + 1 + 1 := by omega
  have d2 : ¬ w.heap.size + 1 + 1 = M0 := by omega
  have e3 : ¬ M0 = w.heap.size + 1 + 1 + 1 := by omega
  have d3 : ¬ w.heap.size + 1 + 1 + 1 = M0 := by omega
  have e4 : ¬ M0 = w.heap.size + 1 + 1 + 1 + 1 := by omega
  have d4 : ¬ w.heap.size + 1 + 1 + 1 + 1 = M0 := by omega
  have e5 : ¬ M0 = w.heap.size + 1 + 1 + 1 + 1 + 1 := by omega
  have d5 : ¬ w.heap.size + 1 + 1 + 1 + 1 + 1 = M0 := by omega
  have e6 : ¬ M0 = A := by omega
  have d6 : ¬ A = M0 := by omega
  have e7 : ¬ M0 = B := by omega
  have d7 : ¬ B = M0 := by omega
  have e8 : ¬ M0 = C := by omega
  have d8 : ¬ C = M0 := by omega
  have e9 : ¬ M0 = D := by omega
  have d9 : ¬ D = M0 := by omega
  have e10 : ¬ M0 = E := by omega
  have d10 : ¬ E = M0 := by omega
  refine ⟨x0.setCell (by show w.heap.size ≤ M0; omega) _, ?_, ?_, ?_, ?_, ?_, ?_, ?_, ?_, ?_, ?_, ?_, ?_, ?_, ?_, ?_, ?_, ?_, ?_, ?_, ?_, ?_, ?_, x23, x24, x25, x26, x27, by simpa using x28⟩
  all_goals (set_option linter.unusedSimpArgs false in simp [go_sem, x1, x2, x3, x4, x5, x6, x7, x8, x9, x10, x11, x12, x13, x14, x15, x16, x17, x18, x19, x20, x21, x22, e0, d0, e1, d1, e2, d2, e3, d3, e4, d4, e5, d5, e6, d6, e7, d7, e8, d8, e9, d9, e10, d10])
theorem LI.fill {w : World} {A B C D E l a b x y f g k c e : Nat} {w1 : World} (hyp : LH w A B C D E l a b x y f g k c e w1) (z : Nat) : LI w A B C D E l a b x y z f g k c e (w1.setCell ⟨w.heap.size + 1 + 1 + 1 + 1 + 1, 0, none⟩ (.float .f64 z)) := by
  obtain ⟨q, hq⟩ := hyp.ex5
  obtain ⟨x0, x1, x2, x3, x4, x5, x6, x7, x8, x9, x10, x11, x12, x13, x14, x15, x16, x17, x18, x19, x20, x21, x22, x23, x24, x25, x26, x27, x28⟩ := hyp.put5 (.float .f64 z)
  exact ⟨x0, x1, x2, x3, x4, x5, by simp [go_sem, hq], x7, x8, x9, x10, x11, x12, x13, x14, x15, x16, x17, x18, x19, x20, x21, x22, x23, x24, x25, x26, x27, x28⟩

theorem LA.start (w : World) (l a b : Nat) : LA w l a b ((((((w.alloc (.cells #[.float .f64 l] 29)).alloc (.cells #[.float .f64 a] 29)).alloc (.cells #[.float .f64 b] 29)).alloc (.cells #[.float .f64 0] 29)).alloc (.cells #[.float .f64 0] 29)).alloc (.cells #[.float .f64 0] 29)) := by
  refine ⟨((((((Below.refl _ w).alloc (Nat.le_refl _) _).alloc (by simp) _).alloc (by simp; omega) _).alloc (by simp; omega) _).alloc (by simp; omega) _).alloc (by simp; omega) _, ?_⟩
  simp [go_sem]
end Go.Proofs.Ytkeagmiolapgpaa.F64
