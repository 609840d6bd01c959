/- xyz_to_oklab: what it hands back. Written by gen_oki.py. -/
import Derived.Test.YtekideiinifffaaMat
import Derived.Deep.DeepCutAuto
namespace Go.Proofs.Ytekideiinifffaa.F64
open Go.RowKit
def u0 (x y z : Nat) : Nat := row 4605552317885431608 4600191143441610756 13817183224500110982 x y z
def u1 (x y z : Nat) : Nat := row 4584914268437469546 4606545491340083669 4585369816687053158 x y z
def u2 (x y z : Nat) : Nat := row 4587103887212223230 4598431736022207442 4603881711049788294 x y z
def v0 (a b c : Nat) : Nat := row 4596750433936516346 4605323493066877613 13794716809331944248 a b c
def v1 (a b c : Nat) : Nat := row 4611586932458118674 13836023159129529662 4601788794573910437 a b c
def v2 (a b c : Nat) : Nat := row 4583123551765604832 4605225800814425346 13828831160156894525 a b c
structure XiOK (x y z : Nat) : Prop where
  a0 : rowOK 4605552317885431608 4600191143441610756 13817183224500110982 x y z
  a1 : rowOK 4584914268437469546 4606545491340083669 4585369816687053158 x y z
  a2 : rowOK 4587103887212223230 4598431736022207442 4603881711049788294 x y z
structure XoOK (a b c : Nat) : Prop where
  b0 : rowOK 4596750433936516346 4605323493066877613 13794716809331944248 a b c
  b1 : rowOK 4611586932458118674 13836023159129529662 4601788794573910437 a b c
  b2 : rowOK 4583123551765604832 4605225800814425346 13828831160156894525 a b c
def csLY : List Value := [.float .f64 4596750433936516346, .float .f64 4605323493066877613, .float .f64 13794716809331944248, .float .f64 4611586932458118674, .float .f64 13836023159129529662, .float .f64 4601788794573910437, .float .f64 4583123551765604832, .float .f64 4605225800814425346, .float .f64 13828831160156894525]
theorem matrL2 (cs : List Value) (hcs : cs = csLY) (b0 b1 b2 : Nat) (w : World) (h : XoOK b0 b1 b2) :
    Calls Try.prog 18 #[.agg cs.toArray, .agg #[.float .f64 b0], .agg #[.float .f64 b1], .agg #[.float .f64 b2]] w
      fun e w' => e = .returned (.tuple #[.agg #[.float .f64 (v0 b0 b1 b2)], .agg #[.float .f64 (v1 b0 b1 b2)], .agg #[.float .f64 (v2 b0 b1 b2)]]) ∧ Below w.heap.size w w' := by
  subst hcs
  exact matr _ _ _ _ _ _ _ _ _ b0 b1 b2 w h.b0 h.b1 h.b2
def Fs2 (w : World) (w1 : World) : Prop :=
  Below w.heap.size w w1 ∧ w1.rangeAt (w.heap.size + 1 + 1 + 1 + 1 + 1 + 1 + 1) 0 csLY ∧
  w1.cell? ⟨w.heap.size + 1 + 1 + 1, 0, none⟩ = some (.float .f64 0) ∧ w1.cell? ⟨w.heap.size + 1 + 1 + 1 + 1, 0, none⟩ = some (.float .f64 0) ∧ w1.cell? ⟨w.heap.size + 1 + 1 + 1 + 1 + 1, 0, none⟩ = some (.float .f64 0) ∧
  w1.frozen? ⟨w.heap.size + 1 + 1 + 1, 0, none⟩ = false ∧ w1.frozen? ⟨w.heap.size + 1 + 1 + 1 + 1, 0, none⟩ = false ∧ w1.frozen? ⟨w.heap.size + 1 + 1 + 1 + 1 + 1, 0, none⟩ = false ∧ w.heap.size + 1 + 1 + 1 + 1 + 1 + 1 + 1 < w1.heap.size
theorem Fs2.of {w : World} {x y z : Nat} {w1 : World} (hb : Below ((((((((w.alloc (.cells #[.float .f64 x] 29)).alloc (.cells #[.float .f64 y] 29)).alloc (.cells #[.float .f64 z] 29)).alloc (.cells #[.float .f64 0] 29)).alloc (.cells #[.float .f64 0] 29)).alloc (.cells #[.float .f64 0] 29)).alloc (.cells #[.float .f64 4605552317885431608, .float .f64 4600191143441610756, .float .f64 13817183224500110982, .float .f64 4584914268437469546, .float .f64 4606545491340083669, .float .f64 4585369816687053158, .float .f64 4587103887212223230, .float .f64 4598431736022207442, .float .f64 4603881711049788294] 34)).alloc (.cells #[.float .f64 4596750433936516346, .float .f64 4605323493066877613, .float .f64 13794716809331944248, .float .f64 4611586932458118674, .float .f64 13836023159129529662, .float .f64 4601788794573910437, .float .f64 4583123551765604832, .float .f64 4605225800814425346, .float .f64 13828831160156894525] 34)).heap.size ((((((((w.alloc (.cells #[.float .f64 x] 29)).alloc (.cells #[.float .f64 y] 29)).alloc (.cells #[.float .f64 z] 29)).alloc (.cells #[.float .f64 0] 29)).alloc (.cells #[.float .f64 0] 29)).alloc (.cells #[.float .f64 0] 29)).alloc (.cells #[.float .f64 4605552317885431608, .float .f64 4600191143441610756, .float .f64 13817183224500110982, .float .f64 4584914268437469546, .float .f64 4606545491340083669, .float .f64 4585369816687053158, .float .f64 4587103887212223230, .float .f64 4598431736022207442, .float .f64 4603881711049788294] 34)).alloc (.cells #[.float .f64 4596750433936516346, .float .f64 4605323493066877613, .float .f64 13794716809331944248, .float .f64 4611586932458118674, .float .f64 13836023159129529662, .float .f64 4601788794573910437, .float .f64 4583123551765604832, .float .f64 4605225800814425346, .float .f64 13828831160156894525] 34)) w1) : Fs2 w w1 := by
  have hz : w.heap.size + 1 + 1 + 1 + 1 + 1 + 1 + 1 < w1.heap.size := by have := hb.size; simp at this; omega
  have hl : ((((((((w.alloc (.cells #[.float .f64 x] 29)).alloc (.cells #[.float .f64 y] 29)).alloc (.cells #[.float .f64 z] 29)).alloc (.cells #[.float .f64 0] 29)).alloc (.cells #[.float .f64 0] 29)).alloc (.cells #[.float .f64 0] 29)).alloc (.cells #[.float .f64 4605552317885431608, .float .f64 4600191143441610756, .float .f64 13817183224500110982, .float .f64 4584914268437469546, .float .f64 4606545491340083669, .float .f64 4585369816687053158, .float .f64 4587103887212223230, .float .f64 4598431736022207442, .float .f64 4603881711049788294] 34)).alloc (.cells #[.float .f64 4596750433936516346, .float .f64 4605323493066877613, .float .f64 13794716809331944248, .float .f64 4611586932458118674, .float .f64 13836023159129529662, .float .f64 4601788794573910437, .float .f64 4583123551765604832, .float .f64 4605225800814425346, .float .f64 13828831160156894525] 34)).heap.size = w.heap.size + 1 + 1 + 1 + 1 + 1 + 1 + 1 + 1 := by simp
  have hB : Below w.heap.size w ((((((((w.alloc (.cells #[.float .f64 x] 29)).alloc (.cells #[.float .f64 y] 29)).alloc (.cells #[.float .f64 z] 29)).alloc (.cells #[.float .f64 0] 29)).alloc (.cells #[.float .f64 0] 29)).alloc (.cells #[.float .f64 0] 29)).alloc (.cells #[.float .f64 4605552317885431608, .float .f64 4600191143441610756, .float .f64 13817183224500110982, .float .f64 4584914268437469546, .float .f64 4606545491340083669, .float .f64 4585369816687053158, .float .f64 4587103887212223230, .float .f64 4598431736022207442, .float .f64 4603881711049788294] 34)).alloc (.cells #[.float .f64 4596750433936516346, .float .f64 4605323493066877613, .float .f64 13794716809331944248, .float .f64 4611586932458118674, .float .f64 13836023159129529662, .float .f64 4601788794573910437, .float .f64 4583123551765604832, .float .f64 4605225800814425346, .float .f64 13828831160156894525] 34)) := ((((((((Below.refl _ w).alloc (Nat.le_refl _) _).alloc (by simp) _).alloc (by simp; omega) _).alloc (by simp; omega) _).alloc (by simp; omega) _).alloc (by simp; omega) _).alloc (by simp; omega) _).alloc (by simp; omega) _
  rw [hl] at hb
  have hc : ∀ b o, b < w.heap.size + 1 + 1 + 1 + 1 + 1 + 1 + 1 + 1 → w1.cell? ⟨b, o, none⟩ = ((((((((w.alloc (.cells #[.float .f64 x] 29)).alloc (.cells #[.float .f64 y] 29)).alloc (.cells #[.float .f64 z] 29)).alloc (.cells #[.float .f64 0] 29)).alloc (.cells #[.float .f64 0] 29)).alloc (.cells #[.float .f64 0] 29)).alloc (.cells #[.float .f64 4605552317885431608, .float .f64 4600191143441610756, .float .f64 13817183224500110982, .float .f64 4584914268437469546, .float .f64 4606545491340083669, .float .f64 4585369816687053158, .float .f64 4587103887212223230, .float .f64 4598431736022207442, .float .f64 4603881711049788294] 34)).alloc (.cells #[.float .f64 4596750433936516346, .float .f64 4605323493066877613, .float .f64 13794716809331944248, .float .f64 4611586932458118674, .float .f64 13836023159129529662, .float .f64 4601788794573910437, .float .f64 4583123551765604832, .float .f64 4605225800814425346, .float .f64 13828831160156894525] 34)).cell? ⟨b, o, none⟩ := fun b o h => hb.cell (p := ⟨b, o, none⟩) h
  have hf : ∀ b o, b < w.heap.size + 1 + 1 + 1 + 1 + 1 + 1 + 1 + 1 → w1.frozen? ⟨b, o, none⟩ = ((((((((w.alloc (.cells #[.float .f64 x] 29)).alloc (.cells #[.float .f64 y] 29)).alloc (.cells #[.float .f64 z] 29)).alloc (.cells #[.float .f64 0] 29)).alloc (.cells #[.float .f64 0] 29)).alloc (.cells #[.float .f64 0] 29)).alloc (.cells #[.float .f64 4605552317885431608, .float .f64 4600191143441610756, .float .f64 13817183224500110982, .float .f64 4584914268437469546, .float .f64 4606545491340083669, .float .f64 4585369816687053158, .float .f64 4587103887212223230, .float .f64 4598431736022207442, .float .f64 4603881711049788294] 34)).alloc (.cells #[.float .f64 4596750433936516346, .float .f64 4605323493066877613, .float .f64 13794716809331944248, .float .f64 4611586932458118674, .float .f64 13836023159129529662, .float .f64 4601788794573910437, .float .f64 4583123551765604832, .float .f64 4605225800814425346, .float .f64 13828831160156894525] 34)).frozen? ⟨b, o, none⟩ := fun b o h => hb.frozen (p := ⟨b, o, none⟩) h
  refine ⟨hB.trans (hb.mono (by omega)), ?_, ?_, ?_, ?_, ?_, ?_, ?_, hz⟩
  · intro j v hv
    have hj : j < 9 := by
      apply Classical.byContradiction; intro hn
      have : csLY[j]? = none := by rw [List.getElem?_eq_none]; show 9 ≤ j; omega
      rw [this] at hv; cases hv
    rw [hc _ _ (by omega)]
    have : j = 0 ∨ j = 1 ∨ j = 2 ∨ j = 3 ∨ j = 4 ∨ j = 5 ∨ j = 6 ∨ j = 7 ∨ j = 8 := by omega
    rcases this with rfl | rfl | rfl | rfl | rfl | rfl | rfl | rfl | rfl <;> (rw [← hv]; simp [go_sem, csLY])
  · rw [hc _ _ (by omega)]; simp [go_sem]
  · rw [hc _ _ (by omega)]; simp [go_sem]
  · rw [hc _ _ (by omega)]; simp [go_sem]
  · rw [hf _ _ (by omega)]; simp [go_sem]
  · rw [hf _ _ (by omega)]; simp [go_sem]
  · rw [hf _ _ (by omega)]; simp [go_sem]
theorem matrI (x y z : Nat) (w : World) (h : XiOK x y z) :
    Calls Try.prog 18 #[.agg #[.float .f64 4605552317885431608, .float .f64 4600191143441610756, .float .f64 13817183224500110982, .float .f64 4584914268437469546, .float .f64 4606545491340083669, .float .f64 4585369816687053158, .float .f64 4587103887212223230, .float .f64 4598431736022207442, .float .f64 4603881711049788294], .agg #[.float .f64 x], .agg #[.float .f64 y], .agg #[.float .f64 z]] w
      fun e w' => e = .returned (.tuple #[.agg #[.float .f64 (u0 x y z)], .agg #[.float .f64 (u1 x y z)], .agg #[.float .f64 (u2 x y z)]]) ∧ Below w.heap.size w w' :=
  matr _ _ _ _ _ _ _ _ _ x y z w h.a0 h.a1 h.a2
def HI (w : World) (M a b c : Nat) (cs : List Value) (w' : World) : Prop :=
  w'.rangeAt (w.heap.size + 1 + 1 + 1 + 1 + 1 + 1 + 1) 0 cs ∧ Below w.heap.size w w' ∧ w'.cell? ⟨M, 0, none⟩ = some (.float .f64 a) ∧ w'.cell? ⟨M + 1, 0, none⟩ = some (.float .f64 b) ∧ w'.cell? ⟨M + 1 + 1, 0, none⟩ = some (.float .f64 c) ∧ (w'.cell? ⟨w.heap.size + 1 + 1 + 1, 0, none⟩).isSome = true ∧ (w'.cell? ⟨w.heap.size + 1 + 1 + 1 + 1, 0, none⟩).isSome = true ∧ (w'.cell? ⟨w.heap.size + 1 + 1 + 1 + 1 + 1, 0, none⟩).isSome = true ∧ w'.frozen? ⟨w.heap.size + 1 + 1 + 1, 0, none⟩ = false ∧ w'.frozen? ⟨w.heap.size + 1 + 1 + 1 + 1, 0, none⟩ = false ∧ w'.frozen? ⟨w.heap.size + 1 + 1 + 1 + 1 + 1, 0, none⟩ = false ∧ w.heap.size + 1 + 1 + 1 + 1 + 1 + 1 + 1 < M ∧ M + 1 + 1 < w'.heap.size
theorem HI.step {w : World} {M a b c : Nat} {cs : List Value} {w1 w2 : World} (h : HI w M a b c cs w1) (hb : Below w1.heap.size w1 w2) : HI w M a b c cs w2 := by
  obtain ⟨x0, x1, x2, x3, x4, x5, x6, x7, x8, x9, x10, x11, x12⟩ := h
  have hc : ∀ b o, b < w1.heap.size → w2.cell? ⟨b, o, none⟩ = w1.cell? ⟨b, o, none⟩ := fun b o h => hb.cell (p := ⟨b, o, none⟩) h
  have hf : ∀ b o, b < w1.heap.size → w2.frozen? ⟨b, o, none⟩ = w1.frozen? ⟨b, o, none⟩ := fun b o h => hb.frozen (p := ⟨b, o, none⟩) h
  have hz := hb.size
  refine ⟨fun j v hv => by rw [hc _ _ (by omega)]; exact x0 j v hv, x1.trans (hb.mono (by omega)), ?_, ?_, ?_, ?_, ?_, ?_, ?_, ?_, ?_, x11, by omega⟩
  · rw [hc _ _ (by omega)]; exact x2
  · rw [hc _ _ (by omega)]; exact x3
  · rw [hc _ _ (by omega)]; exact x4
  · rw [hc _ _ (by omega)]; exact x5
  · rw [hc _ _ (by omega)]; exact x6
  · rw [hc _ _ (by omega)]; exact x7
  · rw [hf _ _ (by omega)]; exact x8
  · rw [hf _ _ (by omega)]; exact x9
  · rw [hf _ _ (by omega)]; exact x10
theorem HI.ex {w : World} {M a b c : Nat} {cs : List Value} {w1 : World} (h : HI w M a b c cs w1) : ∃ u v t, w1.cell? ⟨w.heap.size + 1 + 1 + 1, 0, none⟩ = Option.some u ∧ w1.cell? ⟨w.heap.size + 1 + 1 + 1 + 1, 0, none⟩ = Option.some v ∧ w1.cell? ⟨w.heap.size + 1 + 1 + 1 + 1 + 1, 0, none⟩ = Option.some t := by
  obtain ⟨x0, x1, x2, x3, x4, x5, x6, x7, x8, x9, x10, x11, x12⟩ := h
  obtain ⟨v5, h5⟩ := Option.isSome_iff_exists.1 x5
  obtain ⟨v6, h6⟩ := Option.isSome_iff_exists.1 x6
  obtain ⟨v7, h7⟩ := Option.isSome_iff_exists.1 x7
  exact ⟨v5, v6, v7, h5, h6, h7⟩
theorem HI.set3 {w : World} {M a b c : Nat} {cs : List Value} {w1 : World} {v : Value} (h : HI w M a b c cs w1) : HI w M a b c cs (w1.setCell ⟨w.heap.size + 1 + 1 + 1, 0, none⟩ v) := by
  obtain ⟨x0, x1, x2, x3, x4, x5, x6, x7, x8, x9, x10, x11, x12⟩ := h
  obtain ⟨v5, h5⟩ := Option.isSome_iff_exists.1 x5
  obtain ⟨v6, h6⟩ := Option.isSome_iff_exists.1 x6
  obtain ⟨v7, h7⟩ := Option.isSome_iff_exists.1 x7
  have d0 : ¬ w.heap.size + 1 + 1 + 1 = M := by omega
  have d1 : ¬ w.heap.size + 1 + 1 + 1 = M + 1 := by omega
  have d2 : ¬ w.heap.size + 1 + 1 + 1 = M + 1 + 1 := by omega
  have c0 : ¬ M = w.heap.size + 1 + 1 + 1 := by omega
  have c1 : ¬ M + 1 = w.heap.size + 1 + 1 + 1 := by omega
  have c2 : ¬ M + 1 + 1 = w.heap.size + 1 + 1 + 1 := by omega
  refine ⟨?_, x1.setCell (by simp; try omega) _, ?_, ?_, ?_, ?_, ?_, ?_, ?_, ?_, ?_, x11, by simpa using x12⟩
  · intro j u hu
    have := x0 j u hu
    simp [go_sem]
    simpa using this
  set_option linter.unusedSimpArgs false in
  all_goals simp [go_sem, x2, x3, x4, h5, h6, h7, x8, x9, x10, d0, d1, d2, c0, c1, c2]
theorem HI.set4 {w : World} {M a b c : Nat} {cs : List Value} {w1 : World} {v : Value} (h : HI w M a b c cs w1) : HI w M a b c cs (w1.setCell ⟨w.heap.size + 1 + 1 + 1 + 1, 0, none⟩ v) := by
  obtain ⟨x0, x1, x2, x3, x4, x5, x6, x7, x8, x9, x10, x11, x12⟩ := h
  obtain ⟨v5, h5⟩ := Option.isSome_iff_exists.1 x5
  obtain ⟨v6, h6⟩ := Option.isSome_iff_exists.1 x6
  obtain ⟨v7, h7⟩ := Option.isSome_iff_exists.1 x7
  have d0 : ¬ w.heap.size + 1 + 1 + 1 + 1 = M := by omega
  have d1 : ¬ w.heap.size + 1 + 1 + 1 + 1 = M + 1 := by omega
  have d2 : ¬ w.heap.size + 1 + 1 + 1 + 1 = M + 1 + 1 := by omega
  have c0 : ¬ M = w.heap.size + 1 + 1 + 1 + 1 := by omega
  have c1 : ¬ M + 1 = w.heap.size + 1 + 1 + 1 + 1 := by omega
  have c2 : ¬ M + 1 + 1 = w.heap.size + 1 + 1 + 1 + 1 := by omega
  refine ⟨?_, x1.setCell (by simp; try omega) _, ?_, ?_, ?_, ?_, ?_, ?_, ?_, ?_, ?_, x11, by simpa using x12⟩
  · intro j u hu
    have := x0 j u hu
    simp [go_sem]
    simpa using this
  set_option linter.unusedSimpArgs false in
  all_goals simp [go_sem, x2, x3, x4, h5, h6, h7, x8, x9, x10, d0, d1, d2, c0, c1, c2]
theorem HI.set5 {w : World} {M a b c : Nat} {cs : List Value} {w1 : World} {v : Value} (h : HI w M a b c cs w1) : HI w M a b c cs (w1.setCell ⟨w.heap.size + 1 + 1 + 1 + 1 + 1, 0, none⟩ v) := by
  obtain ⟨x0, x1, x2, x3, x4, x5, x6, x7, x8, x9, x10, x11, x12⟩ := h
  obtain ⟨v5, h5⟩ := Option.isSome_iff_exists.1 x5
  obtain ⟨v6, h6⟩ := Option.isSome_iff_exists.1 x6
  obtain ⟨v7, h7⟩ := Option.isSome_iff_exists.1 x7
  have d0 : ¬ w.heap.size + 1 + 1 + 1 + 1 + 1 = M := by omega
  have d1 : ¬ w.heap.size + 1 + 1 + 1 + 1 + 1 = M + 1 := by omega
  have d2 : ¬ w.heap.size + 1 + 1 + 1 + 1 + 1 = M + 1 + 1 := by omega
  have c0 : ¬ M = w.heap.size + 1 + 1 + 1 + 1 + 1 := by omega
  have c1 : ¬ M + 1 = w.heap.size + 1 + 1 + 1 + 1 + 1 := by omega
  have c2 : ¬ M + 1 + 1 = w.heap.size + 1 + 1 + 1 + 1 + 1 := by omega
  refine ⟨?_, x1.setCell (by simp; try omega) _, ?_, ?_, ?_, ?_, ?_, ?_, ?_, ?_, ?_, x11, by simpa using x12⟩
  · intro j u hu
    have := x0 j u hu
    simp [go_sem]
    simpa using this
  set_option linter.unusedSimpArgs false in
  all_goals simp [go_sem, x2, x3, x4, h5, h6, h7, x8, x9, x10, d0, d1, d2, c0, c1, c2]
theorem HI.start {w : World} {a b c : Nat} {w1 : World} (h : Fs2 w w1) :
    HI w w1.heap.size a b c csLY (((w1.alloc (.cells #[.float .f64 a] 29)).alloc (.cells #[.float .f64 b] 29)).alloc (.cells #[.float .f64 c] 29)) := by
  obtain ⟨y0, y3, y4, y5, y6, y7, y8, y9, y10⟩ := h
  have bb : Below w1.heap.size w1 (((w1.alloc (.cells #[.float .f64 a] 29)).alloc (.cells #[.float .f64 b] 29)).alloc (.cells #[.float .f64 c] 29)) := (((Below.refl _ w1).alloc (Nat.le_refl _) _).alloc (by simp) _).alloc (by simp; omega) _
  have hc : ∀ k o, k < w1.heap.size → (((w1.alloc (.cells #[.float .f64 a] 29)).alloc (.cells #[.float .f64 b] 29)).alloc (.cells #[.float .f64 c] 29)).cell? ⟨k, o, none⟩ = w1.cell? ⟨k, o, none⟩ := fun b o h => bb.cell (p := ⟨b, o, none⟩) h
  have hf : ∀ k o, k < w1.heap.size → (((w1.alloc (.cells #[.float .f64 a] 29)).alloc (.cells #[.float .f64 b] 29)).alloc (.cells #[.float .f64 c] 29)).frozen? ⟨k, o, none⟩ = w1.frozen? ⟨k, o, none⟩ := fun b o h => bb.frozen (p := ⟨b, o, none⟩) h
  have k3 := hc (w.heap.size + 1 + 1 + 1) 0 (by omega)
  have k4 := hc (w.heap.size + 1 + 1 + 1 + 1) 0 (by omega)
  have k5 := hc (w.heap.size + 1 + 1 + 1 + 1 + 1) 0 (by omega)
  have l3 := hf (w.heap.size + 1 + 1 + 1) 0 (by omega)
  have l4 := hf (w.heap.size + 1 + 1 + 1 + 1) 0 (by omega)
  have l5 := hf (w.heap.size + 1 + 1 + 1 + 1 + 1) 0 (by omega)
  have m0 : (((w1.alloc (.cells #[.float .f64 a] 29)).alloc (.cells #[.float .f64 b] 29)).alloc (.cells #[.float .f64 c] 29)).cell? ⟨w1.heap.size, 0, none⟩ = some (.float .f64 a) := by simp [go_sem]
  have m1 : (((w1.alloc (.cells #[.float .f64 a] 29)).alloc (.cells #[.float .f64 b] 29)).alloc (.cells #[.float .f64 c] 29)).cell? ⟨w1.heap.size + 1, 0, none⟩ = some (.float .f64 b) := by simp [go_sem]
  have m2 : (((w1.alloc (.cells #[.float .f64 a] 29)).alloc (.cells #[.float .f64 b] 29)).alloc (.cells #[.float .f64 c] 29)).cell? ⟨w1.heap.size + 1 + 1, 0, none⟩ = some (.float .f64 c) := by simp [go_sem]
  have hsz : (((w1.alloc (.cells #[.float .f64 a] 29)).alloc (.cells #[.float .f64 b] 29)).alloc (.cells #[.float .f64 c] 29)).heap.size = w1.heap.size + 1 + 1 + 1 := by simp
  have kr : (((w1.alloc (.cells #[.float .f64 a] 29)).alloc (.cells #[.float .f64 b] 29)).alloc (.cells #[.float .f64 c] 29)).rangeAt (w.heap.size + 1 + 1 + 1 + 1 + 1 + 1 + 1) 0 csLY := fun j v hv => by rw [hc _ _ (by omega)]; exact y3 j v hv
  rw [y4] at k3
  rw [y5] at k4
  rw [y6] at k5
  rw [y7] at l3
  rw [y8] at l4
  rw [y9] at l5
  have B2 : Below w.heap.size w (((w1.alloc (.cells #[.float .f64 a] 29)).alloc (.cells #[.float .f64 b] 29)).alloc (.cells #[.float .f64 c] 29)) := y0.trans (bb.mono (by omega))
  clear bb hc hf y0 y3 y4 y5 y6 y7 y8 y9
  generalize (((w1.alloc (.cells #[.float .f64 a] 29)).alloc (.cells #[.float .f64 b] 29)).alloc (.cells #[.float .f64 c] 29)) = W at *
  generalize w1.heap.size = M at *
  refine ⟨?_, B2, ?_, ?_, ?_, ?_, ?_, ?_, ?_, ?_, ?_, by omega, by omega⟩
  · intro j u hu
    have := kr j u hu
    exact this
  all_goals simp [k3, k4, k5, l3, l4, l5, m0, m1, m2]
attribute [local irreducible] u0 u1 u2 v0 v1 v2 row
set_option maxRecDepth 100000 in
set_option maxHeartbeats 4000000 in
theorem toOk (x y z a b c : Nat) (w : World) (h : XiOK x y z) (ho : XoOK a b c)
    (ha : ∀ w : World, Calls Try.prog 19 #[.agg #[.float .f64 (u0 x y z)]] w fun e w' => e = .returned (.agg #[.float .f64 a]) ∧ Below w.heap.size w w')
    (hb : ∀ w : World, Calls Try.prog 19 #[.agg #[.float .f64 (u1 x y z)]] w fun e w' => e = .returned (.agg #[.float .f64 b]) ∧ Below w.heap.size w w')
    (hc : ∀ w : World, Calls Try.prog 19 #[.agg #[.float .f64 (u2 x y z)]] w fun e w' => e = .returned (.agg #[.float .f64 c]) ∧ Below w.heap.size w w') :
    Calls Try.prog 14 #[.agg #[.float .f64 x], .agg #[.float .f64 y], .agg #[.float .f64 z]] w
      fun e w' => e = .returned (.tuple #[.agg #[.float .f64 (v0 a b c)], .agg #[.float .f64 (v1 a b c)], .agg #[.float .f64 (v2 a b c)]]) ∧ Below w.heap.size w w' := by
  have H := Lib.hid h
  have HA := Lib.hid ha
  have HB := Lib.hid hb
  have HC := Lib.hid hc
  have HO := Lib.hid ho
  clear h ha hb hc ho
  go_enter Try.func14, Try.ntmps14
  go_wp2_with fail
  refine (matrI x y z _ H.out).mono ?_
  rintro e w1 ⟨rfl, hb⟩
  have F1 := Fs2.of hb
  clear hb
  have hlt : w.heap.size < w1.heap.size := by have := F1.2.2.2.2.2.2.2.2; omega
  have HF := Lib.hid F1
  clear F1 H
  generalize u0 x y z = P0 at *
  generalize u1 x y z = P1 at *
  generalize u2 x y z = P2 at *
  go_upto_region 4 with fail
  have HG := Lib.hid (HI.start (a := P0) (b := P1) (c := P2) HF.out)
  clear HF
  generalize (((w1.alloc (.cells #[.float .f64 P0] 29)).alloc (.cells #[.float .f64 P1] 29)).alloc (.cells #[.float .f64 P2] 29)) = W1 at *
  generalize w1.heap.size = M at *
  obtain ⟨cs, hcs⟩ : ∃ cs, cs = csLY := ⟨_, rfl⟩
  have hi : (Try.prog.info? 34).map (·.size) = some cs.length := by rw [hcs]; rfl
  have hu := Try.underlying34
  have HG2 := HG.out
  rw [← hcs] at HG2
  have HM := Lib.hid (fun (wx : World) => matrL2 cs hcs a b c wx HO.out)
  clear HG hcs hlt
  have START := Lib.hid (show HI w M P0 P1 P2 cs W1.drew from HG2.step (Below.refl _ _).drew)
  clear HG2
  have STEP := Lib.hid (fun w1 w2 (h : HI w M P0 P1 P2 cs w1) (hb : Below w1.heap.size w1 w2) => h.step hb)
  go_region_held3 (fun w' => w'.rangeAt (w.heap.size + 1 + 1 + 1 + 1 + 1 + 1 + 1) 0 cs ∧ Below w.heap.size w w' ∧ w'.cell? ⟨M, 0, none⟩ = some (.float .f64 P0) ∧ w'.cell? ⟨M + 1, 0, none⟩ = some (.float .f64 P1) ∧ w'.cell? ⟨M + 1 + 1, 0, none⟩ = some (.float .f64 P2) ∧ (w'.cell? ⟨w.heap.size + 1 + 1 + 1, 0, none⟩).isSome = true ∧ (w'.cell? ⟨w.heap.size + 1 + 1 + 1 + 1, 0, none⟩).isSome = true ∧ (w'.cell? ⟨w.heap.size + 1 + 1 + 1 + 1 + 1, 0, none⟩).isSome = true ∧ w'.frozen? ⟨w.heap.size + 1 + 1 + 1, 0, none⟩ = false ∧ w'.frozen? ⟨w.heap.size + 1 + 1 + 1 + 1, 0, none⟩ = false ∧ w'.frozen? ⟨w.heap.size + 1 + 1 + 1 + 1 + 1, 0, none⟩ = false ∧ w.heap.size + 1 + 1 + 1 + 1 + 1 + 1 + 1 < M ∧ M + 1 + 1 < w'.heap.size)
    (first | assumption | exact START.out | exact HI.set3 (by assumption) | exact HI.set4 (by assumption) | exact HI.set5 (by assumption))
    (first
      | (go_at_call 19; refine (HA.out _).mono ?_; rintro e w1 ⟨rfl, hb⟩; have hI := STEP.out _ _ (by assumption) hb; unfold HI at hI; clear hb)
      | (go_at_call 19; refine (HB.out _).mono ?_; rintro e w1 ⟨rfl, hb⟩; have hI := STEP.out _ _ (by assumption) hb; unfold HI at hI; clear hb)
      | (go_at_call 19; refine (HC.out _).mono ?_; rintro e w1 ⟨rfl, hb⟩; have hI := STEP.out _ _ (by assumption) hb; unfold HI at hI; clear hb)
      | (go_at_call 18; refine (HM.out _).mono ?_; rintro e w1 ⟨rfl, hb⟩; have hI := STEP.out _ _ (by assumption) hb; obtain ⟨v3, v4, v5, hv3, hv4, hv5⟩ := hI.ex; unfold HI at hI; clear hb))
  go_wp2
  refine bodyPost_ret (v := .tuple #[.agg #[.float .f64 (v0 a b c)], .agg #[.float .f64 (v1 a b c)], .agg #[.float .f64 (v2 a b c)]]) (by first | (simp [results, Try.results14, go_sem, hv3, hv4, hv5]; done) | (simp [results, Try.results14, go_sem, hv3, hv4, hv5]; exact ⟨rfl, rfl, rfl⟩) | (simp [results, Try.results14, go_sem, hv3, hv4, hv5]; rfl)) rfl ⟨rfl, ?_⟩
  exact And.left (And.right (show HI w M P0 P1 P2 cs _ by assumption))
end Go.Proofs.Ytekideiinifffaa.F64
