/- multiplyMatrices: what it hands back. -/
import Derived.Test.YtekideiinifffaaF64
import Derived.Deep.RegionHeld3
import Derived.StillTactics
namespace Go.Proofs.Ytekideiinifffaa.F64
open Go.RowKit
/-- The bits of a valid operation's result. -/
def fo (op : BinOp) (x y : Nat) : Nat := (floatBits op .f64 x y).getD 0
def ok (op : BinOp) (x y : Nat) : Prop := (floatBits op .f64 x y).isSome = true
theorem fo_some {op : BinOp} {x y : Nat} (h : ok op x y) : floatBits op .f64 x y = some (fo op x y) := by
  unfold ok at h; unfold fo
  cases hh : floatBits op .f64 x y with
  | none => rw [hh] at h; cases h
  | some r => rfl

theorem sto2 {P : Program} {w : World} {a : Addr} {m : Mode} (k : FloatKind) (n : Nat) (h : (w.cell? a).isSome = true) (hf : w.frozen? a = false) :
    (store a (.float k n) m).run P w = .ok () (w.setCell a (.float k n)) := by
  rw [sto]; unfold stored
  cases hh : w.cell? a with
  | none => rw [hh] at h; cases h
  | some r => simp [hf]
attribute [go_sem ↓] sto2

/-- What the region of multiplyMatrices needs of memory: the block 'N' of the matrix, the boxes of the vector, the three results' cells. -/
def Inv (w : World) (a0 a1 a2 a3 a4 a5 a6 a7 a8 b0 b1 b2 : Nat) (w' : World) : Prop :=
  Below w.heap.size w w' ∧
  w'.cell? ⟨w.heap.size, 0, none⟩ = some (.float .f64 a0) ∧
  w'.cell? ⟨w.heap.size, 1, none⟩ = some (.float .f64 a1) ∧
  w'.cell? ⟨w.heap.size, 2, none⟩ = some (.float .f64 a2) ∧
  w'.cell? ⟨w.heap.size, 3, none⟩ = some (.float .f64 a3) ∧
  w'.cell? ⟨w.heap.size, 4, none⟩ = some (.float .f64 a4) ∧
  w'.cell? ⟨w.heap.size, 5, none⟩ = some (.float .f64 a5) ∧
  w'.cell? ⟨w.heap.size, 6, none⟩ = some (.float .f64 a6) ∧
  w'.cell? ⟨w.heap.size, 7, none⟩ = some (.float .f64 a7) ∧
  w'.cell? ⟨w.heap.size, 8, none⟩ = some (.float .f64 a8) ∧
  w'.cell? ⟨w.heap.size + 1, 0, none⟩ = some (.float .f64 b0) ∧
  w'.cell? ⟨w.heap.size + 1 + 1, 0, none⟩ = some (.float .f64 b1) ∧
  w'.cell? ⟨w.heap.size + 1 + 1 + 1, 0, none⟩ = some (.float .f64 b2) ∧
  (w'.cell? ⟨w.heap.size + 1 + 1 + 1 + 1, 0, none⟩).isSome = true ∧
  (w'.cell? ⟨w.heap.size + 1 + 1 + 1 + 1 + 1, 0, none⟩).isSome = true ∧
  (w'.cell? ⟨w.heap.size + 1 + 1 + 1 + 1 + 1 + 1, 0, none⟩).isSome = true ∧
  w'.frozen? ⟨w.heap.size + 1 + 1 + 1 + 1, 0, none⟩ = false ∧
  w'.frozen? ⟨w.heap.size + 1 + 1 + 1 + 1 + 1, 0, none⟩ = false ∧
  w'.frozen? ⟨w.heap.size + 1 + 1 + 1 + 1 + 1 + 1, 0, none⟩ = false ∧
  w.heap.size + 1 + 1 + 1 + 1 + 1 + 1 < w'.heap.size

theorem Inv.step {w : World} {a0 a1 a2 a3 a4 a5 a6 a7 a8 b0 b1 b2 : Nat} {w1 w2 : World} (h : Inv w a0 a1 a2 a3 a4 a5 a6 a7 a8 b0 b1 b2 w1) (hb : Below w1.heap.size w1 w2) : Inv w a0 a1 a2 a3 a4 a5 a6 a7 a8 b0 b1 b2 w2 := by
  obtain ⟨hbw, x0, x1, x2, x3, x4, x5, x6, x7, x8, x9, x10, x11, x12, x13, x14, x15, x16, x17, x18⟩ := h
  have hc : ∀ b o, b < w1.heap.size → w2.cell? ⟨b, o, none⟩ = w1.cell? ⟨b, o, none⟩ := fun b o h => hb.cell (p := ⟨b, o, none⟩) h
  have hf : ∀ b o, b < w1.heap.size → w2.frozen? ⟨b, o, none⟩ = w1.frozen? ⟨b, o, none⟩ := fun b o h => hb.frozen (p := ⟨b, o, none⟩) h
  have hz := hb.size
  exact ⟨hbw.trans (hb.mono (by omega)),
    by rw [hc _ _ (by omega)]; exact x0,
    by rw [hc _ _ (by omega)]; exact x1,
    by rw [hc _ _ (by omega)]; exact x2,
    by rw [hc _ _ (by omega)]; exact x3,
    by rw [hc _ _ (by omega)]; exact x4,
    by rw [hc _ _ (by omega)]; exact x5,
    by rw [hc _ _ (by omega)]; exact x6,
    by rw [hc _ _ (by omega)]; exact x7,
    by rw [hc _ _ (by omega)]; exact x8,
    by rw [hc _ _ (by omega)]; exact x9,
    by rw [hc _ _ (by omega)]; exact x10,
    by rw [hc _ _ (by omega)]; exact x11,
    by rw [hc _ _ (by omega)]; exact x12,
    by rw [hc _ _ (by omega)]; exact x13,
    by rw [hc _ _ (by omega)]; exact x14,
    by rw [hf _ _ (by omega)]; exact x15,
    by rw [hf _ _ (by omega)]; exact x16,
    by rw [hf _ _ (by omega)]; exact x17,
    by omega⟩

theorem Inv.set4 {w : World} {a0 a1 a2 a3 a4 a5 a6 a7 a8 b0 b1 b2 : Nat} {w1 : World} {v : Value} (h : Inv w a0 a1 a2 a3 a4 a5 a6 a7 a8 b0 b1 b2 w1) : Inv w a0 a1 a2 a3 a4 a5 a6 a7 a8 b0 b1 b2 (w1.setCell ⟨w.heap.size + 1 + 1 + 1 + 1, 0, none⟩ v) := by
  obtain ⟨hbw, x0, x1, x2, x3, x4, x5, x6, x7, x8, x9, x10, x11, x12, x13, x14, x15, x16, x17, x18⟩ := h
  obtain ⟨v4, h4⟩ := Option.isSome_iff_exists.1 x12
  obtain ⟨v5, h5⟩ := Option.isSome_iff_exists.1 x13
  obtain ⟨v6, h6⟩ := Option.isSome_iff_exists.1 x14
  refine ⟨hbw.setCell (by simp; try omega) _, ?_⟩
  simp [go_sem, x0, x1, x2, x3, x4, x5, x6, x7, x8, x9, x10, x11, h4, h5, h6, x15, x16, x17]
  omega

theorem Inv.set5 {w : World} {a0 a1 a2 a3 a4 a5 a6 a7 a8 b0 b1 b2 : Nat} {w1 : World} {v : Value} (h : Inv w a0 a1 a2 a3 a4 a5 a6 a7 a8 b0 b1 b2 w1) : Inv w a0 a1 a2 a3 a4 a5 a6 a7 a8 b0 b1 b2 (w1.setCell ⟨w.heap.size + 1 + 1 + 1 + 1 + 1, 0, none⟩ v) := by
  obtain ⟨hbw, x0, x1, x2, x3, x4, x5, x6, x7, x8, x9, x10, x11, x12, x13, x14, x15, x16, x17, x18⟩ := h
  obtain ⟨v4, h4⟩ := Option.isSome_iff_exists.1 x12
  obtain ⟨v5, h5⟩ := Option.isSome_iff_exists.1 x13
  obtain ⟨v6, h6⟩ := Option.isSome_iff_exists.1 x14
  refine ⟨hbw.setCell (by simp; try omega) _, ?_⟩
  simp [go_sem, x0, x1, x2, x3, x4, x5, x6, x7, x8, x9, x10, x11, h4, h5, h6, x15, x16, x17]
  omega

theorem Inv.set6 {w : World} {a0 a1 a2 a3 a4 a5 a6 a7 a8 b0 b1 b2 : Nat} {w1 : World} {v : Value} (h : Inv w a0 a1 a2 a3 a4 a5 a6 a7 a8 b0 b1 b2 w1) : Inv w a0 a1 a2 a3 a4 a5 a6 a7 a8 b0 b1 b2 (w1.setCell ⟨w.heap.size + 1 + 1 + 1 + 1 + 1 + 1, 0, none⟩ v) := by
  obtain ⟨hbw, x0, x1, x2, x3, x4, x5, x6, x7, x8, x9, x10, x11, x12, x13, x14, x15, x16, x17, x18⟩ := h
  obtain ⟨v4, h4⟩ := Option.isSome_iff_exists.1 x12
  obtain ⟨v5, h5⟩ := Option.isSome_iff_exists.1 x13
  obtain ⟨v6, h6⟩ := Option.isSome_iff_exists.1 x14
  refine ⟨hbw.setCell (by simp; try omega) _, ?_⟩
  simp [go_sem, x0, x1, x2, x3, x4, x5, x6, x7, x8, x9, x10, x11, h4, h5, h6, x15, x16, x17]
  omega

theorem Inv.some {w : World} {a0 a1 a2 a3 a4 a5 a6 a7 a8 b0 b1 b2 : Nat} {w' : World} (h : Inv w a0 a1 a2 a3 a4 a5 a6 a7 a8 b0 b1 b2 w') : ∃ v4 v5 v6, w'.cell? ⟨w.heap.size + 1 + 1 + 1 + 1, 0, none⟩ = Option.some v4 ∧
    w'.cell? ⟨w.heap.size + 1 + 1 + 1 + 1 + 1, 0, none⟩ = Option.some v5 ∧ w'.cell? ⟨w.heap.size + 1 + 1 + 1 + 1 + 1 + 1, 0, none⟩ = Option.some v6 := by
  obtain ⟨_, _, _, _, _, _, _, _, _, _, _, _, _, x12, x13, x14, _, _, _, _⟩ := h
  obtain ⟨v4, h4⟩ := Option.isSome_iff_exists.1 x12
  obtain ⟨v5, h5⟩ := Option.isSome_iff_exists.1 x13
  obtain ⟨v6, h6⟩ := Option.isSome_iff_exists.1 x14
  exact ⟨v4, v5, v6, h4, h5, h6⟩

set_option maxRecDepth 100000 in
set_option maxHeartbeats 4000000 in
theorem mat (a0 a1 a2 a3 a4 a5 a6 a7 a8 b0 b1 b2 : Nat) (w : World)
    (h0 : ok .mul b0 a0) (h1 : ok .mul b1 a1) (h2 : ok .mul b2 a2) (h3 : ok .mul b0 a3) (h4 : ok .mul b1 a4) (h5 : ok .mul b2 a5)
    (h6 : ok .mul b0 a6) (h7 : ok .mul b1 a7) (h8 : ok .mul b2 a8)
    (g0 : ok .add (fo .mul b0 a0) (fo .mul b1 a1)) (g1 : ok .add (fo .add (fo .mul b0 a0) (fo .mul b1 a1)) (fo .mul b2 a2))
    (g2 : ok .add (fo .mul b0 a3) (fo .mul b1 a4)) (g3 : ok .add (fo .add (fo .mul b0 a3) (fo .mul b1 a4)) (fo .mul b2 a5))
    (g4 : ok .add (fo .mul b0 a6) (fo .mul b1 a7)) (g5 : ok .add (fo .add (fo .mul b0 a6) (fo .mul b1 a7)) (fo .mul b2 a8)) :
    Calls Try.prog 18 #[.agg #[.float .f64 a0, .float .f64 a1, .float .f64 a2, .float .f64 a3, .float .f64 a4, .float .f64 a5, .float .f64 a6, .float .f64 a7, .float .f64 a8],
      .agg #[.float .f64 b0], .agg #[.float .f64 b1], .agg #[.float .f64 b2]] w
      fun e w' => e = .returned (.tuple #[.agg #[.float .f64 (fo .add (fo .add (fo .mul b0 a0) (fo .mul b1 a1)) (fo .mul b2 a2))],
        .agg #[.float .f64 (fo .add (fo .add (fo .mul b0 a3) (fo .mul b1 a4)) (fo .mul b2 a5))],
        .agg #[.float .f64 (fo .add (fo .add (fo .mul b0 a6) (fo .mul b1 a7)) (fo .mul b2 a8))]]) ∧ Below w.heap.size w w' := by
  have START := Lib.hid (fun (o1 o2 o3 o4 o5 o6 o7 : Obj) => show Below w.heap.size w (((((((w.alloc o1).alloc o2).alloc o3).alloc o4).alloc o5).alloc o6).alloc o7).drew from
    ((((((((Below.refl _ w).alloc (Nat.le_refl _) o1).alloc (by simp) o2).alloc (by simp; omega) o3).alloc (by simp; omega) o4).alloc (by simp; omega) o5).alloc (by simp; omega) o6).alloc (by simp; omega) o7).drew)
  have STEP := Lib.hid (fun w1 w2 (h : Inv w a0 a1 a2 a3 a4 a5 a6 a7 a8 b0 b1 b2 w1) (hb : Below w1.heap.size w1 w2) => h.step hb)
  go_enter Try.func18, Try.ntmps18
  go_wp2
  go_region_held3 (fun w' => Below w.heap.size w w' ∧ w'.cell? ⟨w.heap.size, 0, none⟩ = some (.float .f64 a0) ∧ w'.cell? ⟨w.heap.size, 1, none⟩ = some (.float .f64 a1) ∧ w'.cell? ⟨w.heap.size, 2, none⟩ = some (.float .f64 a2) ∧ w'.cell? ⟨w.heap.size, 3, none⟩ = some (.float .f64 a3) ∧ w'.cell? ⟨w.heap.size, 4, none⟩ = some (.float .f64 a4) ∧ w'.cell? ⟨w.heap.size, 5, none⟩ = some (.float .f64 a5) ∧ w'.cell? ⟨w.heap.size, 6, none⟩ = some (.float .f64 a6) ∧ w'.cell? ⟨w.heap.size, 7, none⟩ = some (.float .f64 a7) ∧ w'.cell? ⟨w.heap.size, 8, none⟩ = some (.float .f64 a8) ∧ w'.cell? ⟨w.heap.size + 1, 0, none⟩ = some (.float .f64 b0) ∧ w'.cell? ⟨w.heap.size + 1 + 1, 0, none⟩ = some (.float .f64 b1) ∧ w'.cell? ⟨w.heap.size + 1 + 1 + 1, 0, none⟩ = some (.float .f64 b2) ∧ (w'.cell? ⟨w.heap.size + 1 + 1 + 1 + 1, 0, none⟩).isSome = true ∧ (w'.cell? ⟨w.heap.size + 1 + 1 + 1 + 1 + 1, 0, none⟩).isSome = true ∧ (w'.cell? ⟨w.heap.size + 1 + 1 + 1 + 1 + 1 + 1, 0, none⟩).isSome = true ∧ w'.frozen? ⟨w.heap.size + 1 + 1 + 1 + 1, 0, none⟩ = false ∧ w'.frozen? ⟨w.heap.size + 1 + 1 + 1 + 1 + 1, 0, none⟩ = false ∧ w'.frozen? ⟨w.heap.size + 1 + 1 + 1 + 1 + 1 + 1, 0, none⟩ = false ∧ w.heap.size + 1 + 1 + 1 + 1 + 1 + 1 < w'.heap.size)
    (first | assumption | exact Inv.set4 (by assumption) | exact Inv.set5 (by assumption) | exact Inv.set6 (by assumption) | (refine ⟨START.out _ _ _ _ _ _ _, ?_⟩; go_simp; done))
    (first
      | (go_at_call 21; refine (mulConst _ _ (fo .mul _ _) _ (fo_some ?_)).mono ?_; (first | exact h0 | exact h1 | exact h2 | exact h3 | exact h4 | exact h5 | exact h6 | exact h7 | exact h8); rintro e w1 ⟨rfl, hb⟩; have hI := STEP.out _ _ (by assumption) hb; obtain ⟨v4, v5, v6, hv4, hv5, hv6⟩ := hI.some; unfold Inv at hI; clear hb)
      | (go_at_call 22; refine (add _ _ (fo .add _ _) _ (fo_some ?_)).mono ?_; (first | exact g0 | exact g1 | exact g2 | exact g3 | exact g4 | exact g5); rintro e w1 ⟨rfl, hb⟩; have hI := STEP.out _ _ (by assumption) hb; obtain ⟨v4, v5, v6, hv4, hv5, hv6⟩ := hI.some; unfold Inv at hI; clear hb))
  go_wp2
  refine bodyPost_ret (v := .tuple #[.agg #[.float .f64 (fo .add (fo .add (fo .mul b0 a0) (fo .mul b1 a1)) (fo .mul b2 a2))],
        .agg #[.float .f64 (fo .add (fo .add (fo .mul b0 a3) (fo .mul b1 a4)) (fo .mul b2 a5))],
        .agg #[.float .f64 (fo .add (fo .add (fo .mul b0 a6) (fo .mul b1 a7)) (fo .mul b2 a8))]]) (by simp [results, Try.results18, go_sem, hv4, hv5, hv6]) rfl ⟨rfl, ?_⟩
  exact And.left (show Inv w a0 a1 a2 a3 a4 a5 a6 a7 a8 b0 b1 b2 _ by assumption)

/-- One row of the product, in the order of the text. -/
def row (a b c x y z : Nat) : Nat := fo .add (fo .add (fo .mul x a) (fo .mul y b)) (fo .mul z c)
/-- Each operation of the row is valid. -/
def rowOK (a b c x y z : Nat) : Prop := ok .mul x a ∧ ok .mul y b ∧ ok .mul z c ∧ ok .add (fo .mul x a) (fo .mul y b) ∧ ok .add (fo .add (fo .mul x a) (fo .mul y b)) (fo .mul z c)

theorem matr (a0 a1 a2 a3 a4 a5 a6 a7 a8 b0 b1 b2 : Nat) (w : World) (h1 : rowOK a0 a1 a2 b0 b1 b2) (h2 : rowOK a3 a4 a5 b0 b1 b2) (h3 : rowOK a6 a7 a8 b0 b1 b2) :
    Calls Try.prog 18 #[.agg #[.float .f64 a0, .float .f64 a1, .float .f64 a2, .float .f64 a3, .float .f64 a4, .float .f64 a5, .float .f64 a6, .float .f64 a7, .float .f64 a8],
      .agg #[.float .f64 b0], .agg #[.float .f64 b1], .agg #[.float .f64 b2]] w
      fun e w' => e = .returned (.tuple #[.agg #[.float .f64 (row a0 a1 a2 b0 b1 b2)], .agg #[.float .f64 (row a3 a4 a5 b0 b1 b2)], .agg #[.float .f64 (row a6 a7 a8 b0 b1 b2)]]) ∧ Below w.heap.size w w' :=
  mat a0 a1 a2 a3 a4 a5 a6 a7 a8 b0 b1 b2 w h1.1 h1.2.1 h1.2.2.1 h2.1 h2.2.1 h2.2.2.1 h3.1 h3.2.1 h3.2.2.1 h1.2.2.2.1 h1.2.2.2.2 h2.2.2.2.1 h2.2.2.2.2 h3.2.2.2.1 h3.2.2.2.2
end Go.Proofs.Ytekideiinifffaa.F64
