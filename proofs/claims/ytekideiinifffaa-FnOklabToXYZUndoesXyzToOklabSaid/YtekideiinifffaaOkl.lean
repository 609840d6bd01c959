/- oklab_to_xyz: what it hands back. -/
import Derived.Test.YtekideiinifffaaCubed
import Derived.Deep.DeepCutAuto
namespace Go.Proofs.Ytekideiinifffaa.F64
open Go.RowKit
def p0 (x y z : Nat) : Nat := row 4607182418786060931 4600811406850492424 4596943170085636112 x y z
def p1 (x y z : Nat) : Nat := row 4607182418840017303 13815642953869197506 13812637635721267220 x y z
def p2 (x y z : Nat) : Nat := row 4607182419046240057 13814484472384155798 13831867189814501828 x y z
def q0 (x y z : Nat) : Nat := row 4608204194913203121 13826571607221310104 4598740710432799927 (cub (p0 x y z)) (cub (p1 x y z)) (cub (p2 x y z))
def q1 (x y z : Nat) : Nat := row 13809380441552494495 4607688113723048619 13813203784447463117 (cub (p0 x y z)) (cub (p1 x y z)) (cub (p2 x y z))
def q2 (x y z : Nat) : Nat := row 13813539708526269059 13824636605479633644 4609825689617722726 (cub (p0 x y z)) (cub (p1 x y z)) (cub (p2 x y z))
structure OkOK (x y z : Nat) : Prop where
  a0 : rowOK 4607182418786060931 4600811406850492424 4596943170085636112 x y z
  a1 : rowOK 4607182418840017303 13815642953869197506 13812637635721267220 x y z
  a2 : rowOK 4607182419046240057 13814484472384155798 13831867189814501828 x y z
  c0 : cubOK (p0 x y z)
  c1 : cubOK (p1 x y z)
  c2 : cubOK (p2 x y z)
  b0 : rowOK 4608204194913203121 13826571607221310104 4598740710432799927 (cub (p0 x y z)) (cub (p1 x y z)) (cub (p2 x y z))
  b1 : rowOK 13809380441552494495 4607688113723048619 13813203784447463117 (cub (p0 x y z)) (cub (p1 x y z)) (cub (p2 x y z))
  b2 : rowOK 13813539708526269059 13824636605479633644 4609825689617722726 (cub (p0 x y z)) (cub (p1 x y z)) (cub (p2 x y z))

def csLX : List Value := [.float .f64 4608204194913203121, .float .f64 13826571607221310104, .float .f64 4598740710432799927, .float .f64 13809380441552494495, .float .f64 4607688113723048619, .float .f64 13813203784447463117, .float .f64 13813539708526269059, .float .f64 13824636605479633644, .float .f64 4609825689617722726]
theorem matrL (cs : List Value) (hcs : cs = csLX) (b0 b1 b2 : Nat) (w : World) (h1 : rowOK 4608204194913203121 13826571607221310104 4598740710432799927 b0 b1 b2) (h2 : rowOK 13809380441552494495 4607688113723048619 13813203784447463117 b0 b1 b2) (h3 : rowOK 13813539708526269059 13824636605479633644 4609825689617722726 b0 b1 b2) :
    Calls Try.prog 18 #[.agg cs.toArray, .agg #[.float .f64 b0], .agg #[.float .f64 b1], .agg #[.float .f64 b2]] w
      fun e w' => e = .returned (.tuple #[.agg #[.float .f64 (row 4608204194913203121 13826571607221310104 4598740710432799927 b0 b1 b2)], .agg #[.float .f64 (row 13809380441552494495 4607688113723048619 13813203784447463117 b0 b1 b2)], .agg #[.float .f64 (row 13813539708526269059 13824636605479633644 4609825689617722726 b0 b1 b2)]]) ∧ Below w.heap.size w w' := by
  subst hcs
  exact matr _ _ _ _ _ _ _ _ _ b0 b1 b2 w h1 h2 h3

def Fst (w : World) (x : Nat) (w1 : World) : Prop :=
  Below w.heap.size w w1 ∧ w1.cell? ⟨w.heap.size, 0, none⟩ = some (.float .f64 x) ∧ w1.frozen? ⟨w.heap.size, 0, none⟩ = false ∧ w1.rangeAt (w.heap.size + 1 + 1 + 1 + 1 + 1 + 1) 0 csLX ∧
  w1.cell? ⟨w.heap.size + 1 + 1 + 1, 0, none⟩ = some (.float .f64 0) ∧ w1.cell? ⟨w.heap.size + 1 + 1 + 1 + 1, 0, none⟩ = some (.float .f64 0) ∧ w1.cell? ⟨w.heap.size + 1 + 1 + 1 + 1 + 1, 0, none⟩ = some (.float .f64 0) ∧
  w1.frozen? ⟨w.heap.size + 1 + 1 + 1, 0, none⟩ = false ∧ w1.frozen? ⟨w.heap.size + 1 + 1 + 1 + 1, 0, none⟩ = false ∧ w1.frozen? ⟨w.heap.size + 1 + 1 + 1 + 1 + 1, 0, none⟩ = false ∧ w.heap.size + 1 + 1 + 1 + 1 + 1 + 1 + 1 < w1.heap.size
theorem Fst.of {w : World} {x y z : Nat} {w1 : World} (hb : Below ((((((((w.alloc (.cells #[.float .f64 x] 29)).alloc (.cells #[.float .f64 y] 29)).alloc (.cells #[.float .f64 z] 29)).alloc (.cells #[.float .f64 0] 29)).alloc (.cells #[.float .f64 0] 29)).alloc (.cells #[.float .f64 0] 29)).alloc (.cells #[.float .f64 4608204194913203121, .float .f64 13826571607221310104, .float .f64 4598740710432799927, .float .f64 13809380441552494495, .float .f64 4607688113723048619, .float .f64 13813203784447463117, .float .f64 13813539708526269059, .float .f64 13824636605479633644, .float .f64 4609825689617722726] 34)).alloc (.cells #[.float .f64 4607182418786060931, .float .f64 4600811406850492424, .float .f64 4596943170085636112, .float .f64 4607182418840017303, .float .f64 13815642953869197506, .float .f64 13812637635721267220, .float .f64 4607182419046240057, .float .f64 13814484472384155798, .float .f64 13831867189814501828] 34)).heap.size ((((((((w.alloc (.cells #[.float .f64 x] 29)).alloc (.cells #[.float .f64 y] 29)).alloc (.cells #[.float .f64 z] 29)).alloc (.cells #[.float .f64 0] 29)).alloc (.cells #[.float .f64 0] 29)).alloc (.cells #[.float .f64 0] 29)).alloc (.cells #[.float .f64 4608204194913203121, .float .f64 13826571607221310104, .float .f64 4598740710432799927, .float .f64 13809380441552494495, .float .f64 4607688113723048619, .float .f64 13813203784447463117, .float .f64 13813539708526269059, .float .f64 13824636605479633644, .float .f64 4609825689617722726] 34)).alloc (.cells #[.float .f64 4607182418786060931, .float .f64 4600811406850492424, .float .f64 4596943170085636112, .float .f64 4607182418840017303, .float .f64 13815642953869197506, .float .f64 13812637635721267220, .float .f64 4607182419046240057, .float .f64 13814484472384155798, .float .f64 13831867189814501828] 34)) w1) : Fst w x w1 := by
  have hz : w.heap.size + 1 + 1 + 1 + 1 + 1 + 1 + 1 < w1.heap.size := by have := hb.size; simp at this; omega
  have hl : ((((((((w.alloc (.cells #[.float .f64 x] 29)).alloc (.cells #[.float .f64 y] 29)).alloc (.cells #[.float .f64 z] 29)).alloc (.cells #[.float .f64 0] 29)).alloc (.cells #[.float .f64 0] 29)).alloc (.cells #[.float .f64 0] 29)).alloc (.cells #[.float .f64 4608204194913203121, .float .f64 13826571607221310104, .float .f64 4598740710432799927, .float .f64 13809380441552494495, .float .f64 4607688113723048619, .float .f64 13813203784447463117, .float .f64 13813539708526269059, .float .f64 13824636605479633644, .float .f64 4609825689617722726] 34)).alloc (.cells #[.float .f64 4607182418786060931, .float .f64 4600811406850492424, .float .f64 4596943170085636112, .float .f64 4607182418840017303, .float .f64 13815642953869197506, .float .f64 13812637635721267220, .float .f64 4607182419046240057, .float .f64 13814484472384155798, .float .f64 13831867189814501828] 34)).heap.size = w.heap.size + 1 + 1 + 1 + 1 + 1 + 1 + 1 + 1 := by simp
  have hB : Below w.heap.size w ((((((((w.alloc (.cells #[.float .f64 x] 29)).alloc (.cells #[.float .f64 y] 29)).alloc (.cells #[.float .f64 z] 29)).alloc (.cells #[.float .f64 0] 29)).alloc (.cells #[.float .f64 0] 29)).alloc (.cells #[.float .f64 0] 29)).alloc (.cells #[.float .f64 4608204194913203121, .float .f64 13826571607221310104, .float .f64 4598740710432799927, .float .f64 13809380441552494495, .float .f64 4607688113723048619, .float .f64 13813203784447463117, .float .f64 13813539708526269059, .float .f64 13824636605479633644, .float .f64 4609825689617722726] 34)).alloc (.cells #[.float .f64 4607182418786060931, .float .f64 4600811406850492424, .float .f64 4596943170085636112, .float .f64 4607182418840017303, .float .f64 13815642953869197506, .float .f64 13812637635721267220, .float .f64 4607182419046240057, .float .f64 13814484472384155798, .float .f64 13831867189814501828] 34)) := ((((((((Below.refl _ w).alloc (Nat.le_refl _) _).alloc (by simp) _).alloc (by simp; omega) _).alloc (by simp; omega) _).alloc (by simp; omega) _).alloc (by simp; omega) _).alloc (by simp; omega) _).alloc (by simp; omega) _
  rw [hl] at hb
  have hc : ∀ b o, b < w.heap.size + 1 + 1 + 1 + 1 + 1 + 1 + 1 + 1 → w1.cell? ⟨b, o, none⟩ = ((((((((w.alloc (.cells #[.float .f64 x] 29)).alloc (.cells #[.float .f64 y] 29)).alloc (.cells #[.float .f64 z] 29)).alloc (.cells #[.float .f64 0] 29)).alloc (.cells #[.float .f64 0] 29)).alloc (.cells #[.float .f64 0] 29)).alloc (.cells #[.float .f64 4608204194913203121, .float .f64 13826571607221310104, .float .f64 4598740710432799927, .float .f64 13809380441552494495, .float .f64 4607688113723048619, .float .f64 13813203784447463117, .float .f64 13813539708526269059, .float .f64 13824636605479633644, .float .f64 4609825689617722726] 34)).alloc (.cells #[.float .f64 4607182418786060931, .float .f64 4600811406850492424, .float .f64 4596943170085636112, .float .f64 4607182418840017303, .float .f64 13815642953869197506, .float .f64 13812637635721267220, .float .f64 4607182419046240057, .float .f64 13814484472384155798, .float .f64 13831867189814501828] 34)).cell? ⟨b, o, none⟩ := fun b o h => hb.cell (p := ⟨b, o, none⟩) h
  have hf : ∀ b o, b < w.heap.size + 1 + 1 + 1 + 1 + 1 + 1 + 1 + 1 → w1.frozen? ⟨b, o, none⟩ = ((((((((w.alloc (.cells #[.float .f64 x] 29)).alloc (.cells #[.float .f64 y] 29)).alloc (.cells #[.float .f64 z] 29)).alloc (.cells #[.float .f64 0] 29)).alloc (.cells #[.float .f64 0] 29)).alloc (.cells #[.float .f64 0] 29)).alloc (.cells #[.float .f64 4608204194913203121, .float .f64 13826571607221310104, .float .f64 4598740710432799927, .float .f64 13809380441552494495, .float .f64 4607688113723048619, .float .f64 13813203784447463117, .float .f64 13813539708526269059, .float .f64 13824636605479633644, .float .f64 4609825689617722726] 34)).alloc (.cells #[.float .f64 4607182418786060931, .float .f64 4600811406850492424, .float .f64 4596943170085636112, .float .f64 4607182418840017303, .float .f64 13815642953869197506, .float .f64 13812637635721267220, .float .f64 4607182419046240057, .float .f64 13814484472384155798, .float .f64 13831867189814501828] 34)).frozen? ⟨b, o, none⟩ := fun b o h => hb.frozen (p := ⟨b, o, none⟩) h
  refine ⟨hB.trans (hb.mono (by omega)), ?_, ?_, ?_, ?_, ?_, ?_, ?_, ?_, ?_, hz⟩
  · rw [hc _ _ (by omega)]; simp [go_sem]
  · rw [hf _ _ (by omega)]; simp [go_sem]
  · intro j v hv
    have hj : j < 9 := by
      apply Classical.byContradiction; intro hn
      have : csLX[j]? = none := by rw [List.getElem?_eq_none]; show 9 ≤ j; omega
      rw [this] at hv; cases hv
    rw [hc _ _ (by omega)]
    have : j = 0 ∨ j = 1 ∨ j = 2 ∨ j = 3 ∨ j = 4 ∨ j = 5 ∨ j = 6 ∨ j = 7 ∨ j = 8 := by omega
    rcases this with rfl | rfl | rfl | rfl | rfl | rfl | rfl | rfl | rfl <;> (rw [← hv]; simp [go_sem, csLX])
  · rw [hc _ _ (by omega)]; simp [go_sem]
  · rw [hc _ _ (by omega)]; simp [go_sem]
  · rw [hc _ _ (by omega)]; simp [go_sem]
  · rw [hf _ _ (by omega)]; simp [go_sem]
  · rw [hf _ _ (by omega)]; simp [go_sem]
  · rw [hf _ _ (by omega)]; simp [go_sem]

theorem matrO (x y z : Nat) (w : World) (h : OkOK x y z) :
    Calls Try.prog 18 #[.agg #[.float .f64 4607182418786060931, .float .f64 4600811406850492424, .float .f64 4596943170085636112, .float .f64 4607182418840017303, .float .f64 13815642953869197506, .float .f64 13812637635721267220, .float .f64 4607182419046240057, .float .f64 13814484472384155798, .float .f64 13831867189814501828], .agg #[.float .f64 x], .agg #[.float .f64 y], .agg #[.float .f64 z]] w
      fun e w' => e = .returned (.tuple #[.agg #[.float .f64 (p0 x y z)], .agg #[.float .f64 (p1 x y z)], .agg #[.float .f64 (p2 x y z)]]) ∧ Below w.heap.size w w' :=
  matr _ _ _ _ _ _ _ _ _ x y z w h.a0 h.a1 h.a2
def GI (w : World) (M a b c : Nat) (cs : List Value) (w' : World) : Prop :=
  w'.rangeAt (w.heap.size + 1 + 1 + 1 + 1 + 1 + 1) 0 cs ∧ Below w.heap.size w w' ∧ w'.cell? ⟨w.heap.size, 0, none⟩ = some (.float .f64 a) ∧ w'.cell? ⟨M, 0, none⟩ = some (.float .f64 b) ∧ w'.cell? ⟨M + 1, 0, none⟩ = some (.float .f64 c) ∧ (w'.cell? ⟨w.heap.size + 1 + 1 + 1, 0, none⟩).isSome = true ∧ (w'.cell? ⟨w.heap.size + 1 + 1 + 1 + 1, 0, none⟩).isSome = true ∧ (w'.cell? ⟨w.heap.size + 1 + 1 + 1 + 1 + 1, 0, none⟩).isSome = true ∧ w'.frozen? ⟨w.heap.size + 1 + 1 + 1, 0, none⟩ = false ∧ w'.frozen? ⟨w.heap.size + 1 + 1 + 1 + 1, 0, none⟩ = false ∧ w'.frozen? ⟨w.heap.size + 1 + 1 + 1 + 1 + 1, 0, none⟩ = false ∧ w.heap.size + 1 + 1 + 1 + 1 + 1 + 1 + 1 < M ∧ M + 1 < w'.heap.size
theorem GI.step {w : World} {M a b c : Nat} {cs : List Value} {w1 w2 : World} (h : GI w M a b c cs w1) (hb : Below w1.heap.size w1 w2) : GI w M a b c cs w2 := by
  obtain ⟨x0, x1, x2, x3, x4, x5, x6, x7, x8, x9, x10, x11, x12⟩ := h
  have hc : ∀ b o, b < w1.heap.size → w2.cell? ⟨b, o, none⟩ = w1.cell? ⟨b, o, none⟩ := fun b o h => hb.cell (p := ⟨b, o, none⟩) h
  have hf : ∀ b o, b < w1.heap.size → w2.frozen? ⟨b, o, none⟩ = w1.frozen? ⟨b, o, none⟩ := fun b o h => hb.frozen (p := ⟨b, o, none⟩) h
  have hz := hb.size
  refine ⟨fun j v hv => by rw [hc _ _ (by omega)]; exact x0 j v hv, x1.trans (hb.mono (by omega)), ?_, ?_, ?_, ?_, ?_, ?_, ?_, ?_, ?_, x11, by omega⟩
  · rw [hc _ _ (by omega)]; exact x2
  · rw [hc _ _ (by omega)]; exact x3
  · rw [hc _ _ (by omega)]; exact x4
  · rw [hc _ _ (by omega)]; exact x5
  · rw [hc _ _ (by omega)]; exact x6
  · rw [hc _ _ (by omega)]; exact x7
  · rw [hf _ _ (by omega)]; exact x8
  · rw [hf _ _ (by omega)]; exact x9
  · rw [hf _ _ (by omega)]; exact x10
theorem GI.ex {w : World} {M a b c : Nat} {cs : List Value} {w1 : World} (h : GI w M a b c cs w1) : ∃ u v t, w1.cell? ⟨w.heap.size + 1 + 1 + 1, 0, none⟩ = Option.some u ∧ w1.cell? ⟨w.heap.size + 1 + 1 + 1 + 1, 0, none⟩ = Option.some v ∧ w1.cell? ⟨w.heap.size + 1 + 1 + 1 + 1 + 1, 0, none⟩ = Option.some t := by
  obtain ⟨x0, x1, x2, x3, x4, x5, x6, x7, x8, x9, x10, x11, x12⟩ := h
  obtain ⟨v5, h5⟩ := Option.isSome_iff_exists.1 x5
  obtain ⟨v6, h6⟩ := Option.isSome_iff_exists.1 x6
  obtain ⟨v7, h7⟩ := Option.isSome_iff_exists.1 x7
  exact ⟨v5, v6, v7, h5, h6, h7⟩
theorem GI.set3 {w : World} {M a b c : Nat} {cs : List Value} {w1 : World} {v : Value} (h : GI w M a b c cs w1) : GI w M a b c cs (w1.setCell ⟨w.heap.size + 1 + 1 + 1, 0, none⟩ v) := by
  obtain ⟨x0, x1, x2, x3, x4, x5, x6, x7, x8, x9, x10, x11, x12⟩ := h
  obtain ⟨v5, h5⟩ := Option.isSome_iff_exists.1 x5
  obtain ⟨v6, h6⟩ := Option.isSome_iff_exists.1 x6
  obtain ⟨v7, h7⟩ := Option.isSome_iff_exists.1 x7
  refine ⟨?_, x1.setCell (by simp; try omega) _, ?_, ?_, ?_, ?_, ?_, ?_, ?_, ?_, ?_, x11, by simpa using x12⟩
  · intro j u hu
    have := x0 j u hu
    have hne : ¬ ((⟨w.heap.size + 1 + 1 + 1, 0, none⟩ : Addr) = ⟨w.heap.size + 1 + 1 + 1 + 1 + 1 + 1, 0 + j, none⟩) := by intro e; injection e with e1; omega
    simp [go_sem]
    simpa using this
  all_goals simp [go_sem, x2, x3, x4, h5, h6, h7, x8, x9, x10]
theorem GI.set4 {w : World} {M a b c : Nat} {cs : List Value} {w1 : World} {v : Value} (h : GI w M a b c cs w1) : GI w M a b c cs (w1.setCell ⟨w.heap.size + 1 + 1 + 1 + 1, 0, none⟩ v) := by
  obtain ⟨x0, x1, x2, x3, x4, x5, x6, x7, x8, x9, x10, x11, x12⟩ := h
  obtain ⟨v5, h5⟩ := Option.isSome_iff_exists.1 x5
  obtain ⟨v6, h6⟩ := Option.isSome_iff_exists.1 x6
  obtain ⟨v7, h7⟩ := Option.isSome_iff_exists.1 x7
  refine ⟨?_, x1.setCell (by simp; try omega) _, ?_, ?_, ?_, ?_, ?_, ?_, ?_, ?_, ?_, x11, by simpa using x12⟩
  · intro j u hu
    have := x0 j u hu
    have hne : ¬ ((⟨w.heap.size + 1 + 1 + 1 + 1, 0, none⟩ : Addr) = ⟨w.heap.size + 1 + 1 + 1 + 1 + 1 + 1, 0 + j, none⟩) := by intro e; injection e with e1; omega
    simp [go_sem]
    simpa using this
  all_goals simp [go_sem, x2, x3, x4, h5, h6, h7, x8, x9, x10]
theorem GI.set5 {w : World} {M a b c : Nat} {cs : List Value} {w1 : World} {v : Value} (h : GI w M a b c cs w1) : GI w M a b c cs (w1.setCell ⟨w.heap.size + 1 + 1 + 1 + 1 + 1, 0, none⟩ v) := by
  obtain ⟨x0, x1, x2, x3, x4, x5, x6, x7, x8, x9, x10, x11, x12⟩ := h
  obtain ⟨v5, h5⟩ := Option.isSome_iff_exists.1 x5
  obtain ⟨v6, h6⟩ := Option.isSome_iff_exists.1 x6
  obtain ⟨v7, h7⟩ := Option.isSome_iff_exists.1 x7
  refine ⟨?_, x1.setCell (by simp; try omega) _, ?_, ?_, ?_, ?_, ?_, ?_, ?_, ?_, ?_, x11, by simpa using x12⟩
  · intro j u hu
    have := x0 j u hu
    have hne : ¬ ((⟨w.heap.size + 1 + 1 + 1 + 1 + 1, 0, none⟩ : Addr) = ⟨w.heap.size + 1 + 1 + 1 + 1 + 1 + 1, 0 + j, none⟩) := by intro e; injection e with e1; omega
    simp [go_sem]
    simpa using this
  all_goals simp [go_sem, x2, x3, x4, h5, h6, h7, x8, x9, x10]

theorem GI.start {w : World} {x a b c : Nat} {w1 : World} (h : Fst w x w1) :
    GI w w1.heap.size a b c csLX (((((w1.alloc (.cells #[.float .f64 0] 29)).alloc (.cells #[.float .f64 0] 29)).setCell ⟨w.heap.size, 0, none⟩ (.float .f64 a)).setCell ⟨w1.heap.size, 0, none⟩ (.float .f64 b)).setCell ⟨w1.heap.size + 1, 0, none⟩ (.float .f64 c)) := by
  obtain ⟨y0, y1, y2, y3, y4, y5, y6, y7, y8, y9, y10⟩ := h
  have bb : Below w1.heap.size w1 ((w1.alloc (.cells #[.float .f64 0] 29)).alloc (.cells #[.float .f64 0] 29)) := ((Below.refl _ w1).alloc (Nat.le_refl _) _).alloc (by simp) _
  have hc : ∀ b o, b < w1.heap.size → ((w1.alloc (.cells #[.float .f64 0] 29)).alloc (.cells #[.float .f64 0] 29)).cell? ⟨b, o, none⟩ = w1.cell? ⟨b, o, none⟩ := fun b o h => bb.cell (p := ⟨b, o, none⟩) h
  have hf : ∀ b o, b < w1.heap.size → ((w1.alloc (.cells #[.float .f64 0] 29)).alloc (.cells #[.float .f64 0] 29)).frozen? ⟨b, o, none⟩ = w1.frozen? ⟨b, o, none⟩ := fun b o h => bb.frozen (p := ⟨b, o, none⟩) h
  have k0 := hc w.heap.size 0 (by omega)
  have k3 := hc (w.heap.size + 1 + 1 + 1) 0 (by omega)
  have k4 := hc (w.heap.size + 1 + 1 + 1 + 1) 0 (by omega)
  have k5 := hc (w.heap.size + 1 + 1 + 1 + 1 + 1) 0 (by omega)
  have l0 := hf w.heap.size 0 (by omega)
  have l3 := hf (w.heap.size + 1 + 1 + 1) 0 (by omega)
  have l4 := hf (w.heap.size + 1 + 1 + 1 + 1) 0 (by omega)
  have l5 := hf (w.heap.size + 1 + 1 + 1 + 1 + 1) 0 (by omega)
  have m1 : ((w1.alloc (.cells #[.float .f64 0] 29)).alloc (.cells #[.float .f64 0] 29)).cell? ⟨w1.heap.size, 0, none⟩ = some (.float .f64 0) := by simp [go_sem]
  have m2 : ((w1.alloc (.cells #[.float .f64 0] 29)).alloc (.cells #[.float .f64 0] 29)).cell? ⟨w1.heap.size + 1, 0, none⟩ = some (.float .f64 0) := by simp [go_sem]
  have hsz : ((w1.alloc (.cells #[.float .f64 0] 29)).alloc (.cells #[.float .f64 0] 29)).heap.size = w1.heap.size + 1 + 1 := by simp
  have kr : ((w1.alloc (.cells #[.float .f64 0] 29)).alloc (.cells #[.float .f64 0] 29)).rangeAt (w.heap.size + 1 + 1 + 1 + 1 + 1 + 1) 0 csLX := fun j v hv => by rw [hc _ _ (by omega)]; exact y3 j v hv
  rw [y1] at k0
  rw [y4] at k3
  rw [y5] at k4
  rw [y6] at k5
  rw [y2] at l0
  rw [y7] at l3
  rw [y8] at l4
  rw [y9] at l5
  have B2 : Below w.heap.size w ((w1.alloc (.cells #[.float .f64 0] 29)).alloc (.cells #[.float .f64 0] 29)) := y0.trans (bb.mono (by omega))
  clear bb hc hf y0 y1 y2 y3 y4 y5 y6 y7 y8 y9
  generalize ((w1.alloc (.cells #[.float .f64 0] 29)).alloc (.cells #[.float .f64 0] 29)) = W at *
  generalize w1.heap.size = M at *
  have e1 : ¬ w.heap.size = M := by omega
  have e2 : ¬ M = w.heap.size := by omega
  have e3 : ¬ w.heap.size = M + 1 := by omega
  have e4 : ¬ M + 1 = w.heap.size := by omega
  have g3 : ¬ M = w.heap.size + 1 + 1 + 1 := by omega
  have g4 : ¬ M = w.heap.size + 1 + 1 + 1 + 1 := by omega
  have g5 : ¬ M = w.heap.size + 1 + 1 + 1 + 1 + 1 := by omega
  have i3 : ¬ M + 1 = w.heap.size + 1 + 1 + 1 := by omega
  have i4 : ¬ M + 1 = w.heap.size + 1 + 1 + 1 + 1 := by omega
  have i5 : ¬ M + 1 = w.heap.size + 1 + 1 + 1 + 1 + 1 := by omega
  have j3 : ¬ w.heap.size + 1 + 1 + 1 = M := by omega
  have j4 : ¬ w.heap.size + 1 + 1 + 1 + 1 = M := by omega
  have j5 : ¬ w.heap.size + 1 + 1 + 1 + 1 + 1 = M := by omega
  have o3 : ¬ w.heap.size + 1 + 1 + 1 = M + 1 := by omega
  have o4 : ¬ w.heap.size + 1 + 1 + 1 + 1 = M + 1 := by omega
  have o5 : ¬ w.heap.size + 1 + 1 + 1 + 1 + 1 = M + 1 := by omega
  refine ⟨?_, ((B2.setCell (Nat.le_refl _) _).setCell (by show w.heap.size ≤ M; omega) _).setCell (by show w.heap.size ≤ M + 1; omega) _, ?_, ?_, ?_, ?_, ?_, ?_, ?_, ?_, ?_, by omega, by simp; omega⟩
  · intro j u hu
    have := kr j u hu
    have r1 : ¬ M = w.heap.size + 1 + 1 + 1 + 1 + 1 + 1 := by omega
    have r2 : ¬ M + 1 = w.heap.size + 1 + 1 + 1 + 1 + 1 + 1 := by omega
    have r3 : ¬ w.heap.size + 1 + 1 + 1 + 1 + 1 + 1 = M := by omega
    have r4 : ¬ w.heap.size + 1 + 1 + 1 + 1 + 1 + 1 = M + 1 := by omega
    set_option linter.unusedSimpArgs false in
    simp [go_sem, r1, r2, r3, r4]
    simpa using this
  set_option linter.unusedSimpArgs false in
  all_goals simp [go_sem, k0, k3, k4, k5, l0, l3, l4, l5, m1, m2, e1, e2, e3, e4, g3, g4, g5, i3, i4, i5, j3, j4, j5, o3, o4, o5]

attribute [local irreducible] p0 p1 p2 cub row
set_option maxRecDepth 100000 in
set_option maxHeartbeats 4000000 in
theorem oklab (x y z : Nat) (w : World) (h : OkOK x y z) :
    Calls Try.prog 17 #[.agg #[.float .f64 x], .agg #[.float .f64 y], .agg #[.float .f64 z]] w
      fun e w' => e = .returned (.tuple #[.agg #[.float .f64 (q0 x y z)], .agg #[.float .f64 (q1 x y z)], .agg #[.float .f64 (q2 x y z)]]) ∧ Below w.heap.size w w' := by
  have H := Lib.hid h
  clear h
  go_enter Try.func17, Try.ntmps17
  go_wp2_with fail
  refine (matrO x y z _ H.out).mono ?_
  rintro e w1 ⟨rfl, hb⟩
  have F1 := Fst.of hb
  clear hb
  have hlt : w.heap.size < w1.heap.size := by have := F1.2.2.2.2.2.2.2.2.2.2; omega
  have bb : ∀ o o', Below w1.heap.size w1 ((w1.alloc o).alloc o') := fun o o' => ((Below.refl _ w1).alloc (Nat.le_refl _) o).alloc (by simp) o'
  have n0 : ∀ o o', ((w1.alloc o).alloc o').cell? ⟨w.heap.size, 0, none⟩ = some (.float .f64 x) := fun o o' => by rw [(bb o o').cell (p := ⟨w.heap.size, 0, none⟩) hlt]; exact F1.2.1
  have n1 : ∀ o o', ((w1.alloc o).alloc o').frozen? ⟨w.heap.size, 0, none⟩ = false := fun o o' => by rw [(bb o o').frozen (p := ⟨w.heap.size, 0, none⟩) hlt]; exact F1.2.2.1
  have e1 : ¬ w.heap.size = w1.heap.size := by omega
  have e2 : ¬ w1.heap.size = w.heap.size := by omega
  have e3 : ¬ w.heap.size = w1.heap.size + 1 := by omega
  have e4 : ¬ w1.heap.size + 1 = w.heap.size := by omega
  clear bb hlt
  have HF := Lib.hid F1
  clear F1
  go_upto_region 4 with fail
  clear n0 n1 e1 e2 e3 e4
  have HG := Lib.hid (GI.start (a := p0 x y z) (b := p1 x y z) (c := p2 x y z) HF.out)
  clear HF
  generalize (((((w1.alloc (.cells #[.float .f64 0] 29)).alloc (.cells #[.float .f64 0] 29)).setCell ⟨w.heap.size, 0, none⟩ (.float .f64 (p0 x y z))).setCell ⟨w1.heap.size, 0, none⟩ (.float .f64 (p1 x y z))).setCell ⟨w1.heap.size + 1, 0, none⟩ (.float .f64 (p2 x y z))) = W1 at *
  generalize w1.heap.size = M at *
  obtain ⟨cs, hcs⟩ : ∃ cs, cs = csLX := ⟨_, rfl⟩
  have hi : (Try.prog.info? 34).map (·.size) = some cs.length := by rw [hcs]; rfl
  have hu := Try.underlying34
  have HG2 := HG.out
  rw [← hcs] at HG2
  have HM := Lib.hid (fun (wx : World) => matrL cs hcs (cub (p0 x y z)) (cub (p1 x y z)) (cub (p2 x y z)) wx H.out.b0 H.out.b1 H.out.b2)
  clear HG hcs
  have START := Lib.hid (show GI w M (p0 x y z) (p1 x y z) (p2 x y z) cs W1.drew from HG2.step (Below.refl _ _).drew)
  clear HG2
  have STEP := Lib.hid (fun w1 w2 (h : GI w M (p0 x y z) (p1 x y z) (p2 x y z) cs w1) (hb : Below w1.heap.size w1 w2) => h.step hb)
  go_region_held3 (fun w' => w'.rangeAt (w.heap.size + 1 + 1 + 1 + 1 + 1 + 1) 0 cs ∧ Below w.heap.size w w' ∧ w'.cell? ⟨w.heap.size, 0, none⟩ = some (.float .f64 (p0 x y z)) ∧ w'.cell? ⟨M, 0, none⟩ = some (.float .f64 (p1 x y z)) ∧ w'.cell? ⟨M + 1, 0, none⟩ = some (.float .f64 (p2 x y z)) ∧ (w'.cell? ⟨w.heap.size + 1 + 1 + 1, 0, none⟩).isSome = true ∧ (w'.cell? ⟨w.heap.size + 1 + 1 + 1 + 1, 0, none⟩).isSome = true ∧ (w'.cell? ⟨w.heap.size + 1 + 1 + 1 + 1 + 1, 0, none⟩).isSome = true ∧ w'.frozen? ⟨w.heap.size + 1 + 1 + 1, 0, none⟩ = false ∧ w'.frozen? ⟨w.heap.size + 1 + 1 + 1 + 1, 0, none⟩ = false ∧ w'.frozen? ⟨w.heap.size + 1 + 1 + 1 + 1 + 1, 0, none⟩ = false ∧ w.heap.size + 1 + 1 + 1 + 1 + 1 + 1 + 1 < M ∧ M + 1 < w'.heap.size)
    (first | assumption | exact START.out | exact GI.set3 (by assumption) | exact GI.set4 (by assumption) | exact GI.set5 (by assumption))
    (first
      | (go_at_call 20; refine (cubed (p0 x y z) _ H.out.c0).mono ?_; rintro e w1 ⟨rfl, hb⟩; have hI := STEP.out _ _ (by assumption) hb; unfold GI at hI; clear hb)
      | (go_at_call 20; refine (cubed (p1 x y z) _ H.out.c1).mono ?_; rintro e w1 ⟨rfl, hb⟩; have hI := STEP.out _ _ (by assumption) hb; unfold GI at hI; clear hb)
      | (go_at_call 20; refine (cubed (p2 x y z) _ H.out.c2).mono ?_; rintro e w1 ⟨rfl, hb⟩; have hI := STEP.out _ _ (by assumption) hb; unfold GI at hI; clear hb)
      | (go_at_call 18; refine (HM.out _).mono ?_; rintro e w1 ⟨rfl, hb⟩; have hI := STEP.out _ _ (by assumption) hb; obtain ⟨v3, v4, v5, hv3, hv4, hv5⟩ := hI.ex; unfold GI at hI; clear hb))
  go_wp2
  refine bodyPost_ret (v := .tuple #[.agg #[.float .f64 (q0 x y z)], .agg #[.float .f64 (q1 x y z)], .agg #[.float .f64 (q2 x y z)]]) (by first | (simp [results, Try.results17, go_sem, hv3, hv4, hv5, q0, q1, q2]; done) | (simp [results, Try.results17, go_sem, hv3, hv4, hv5]; exact ⟨rfl, rfl, rfl⟩) | (simp [results, Try.results17, go_sem, hv3, hv4, hv5]; rfl)) rfl ⟨rfl, ?_⟩
  exact And.left (And.right (show GI w M (p0 x y z) (p1 x y z) (p2 x y z) cs _ by assumption))
end Go.Proofs.Ytekideiinifffaa.F64
