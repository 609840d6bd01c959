/- compactRules of the corners: names and small facts. Printed by gen_co.py. -/
import Derived.Test.YtnolnlekdlfeaaaDoorJb
import Derived.Test.YtnolnlekdlfeaaaDoorGd
namespace Go.Proofs.YtnolnlekdlfeaaaDoor.ZT
open Go.RowKit Go.Proofs.YtnolnlekdlfeaaaDoor.TB
set_option linter.unusedVariables false
set_option linter.unusedSimpArgs false
def dv : Option Nat → Value
  | none => .nilIface
  | some d => .iface 25 (.pointer (some ⟨d, 0, none⟩))
/-- A table of rules. -/
def rc (D : Nat → Option Nat) (Lc : Nat → Int) : Nat → Nat → Value := fun i j => #[dv (D i), .int .i32 (Lc i)][j]!
def safe (U : ByteArray) (s : Int) (U' : ByteArray) (s' : Int) : Bool := (s == s') && (!(s == 2)) && ((!(s == 1)) || (U.toList == U'.toList))
def fires (S : Nat → Cn) : Bool := (!((S 0).k == 0) && (!((S 1).k == 0) && (!((S 2).k == 0) && (!((S 3).k == 0) && (safe (S 1).u (S 1).st (S 0).u (S 0).st && (safe (S 2).u (S 2).st (S 0).u (S 0).st && safe (S 3).u (S 3).st (S 0).u (S 0).st))))))
/-- What a comparison of two corners needs of memory. -/
def PJ (wr : World) (b x b' y : Nat) (u : ByteArray) (s : Int) (u' : ByteArray) (s' : Int) (w' : World) : Prop :=
  Below wr.heap.size wr w' ∧ b < wr.heap.size ∧ b' < wr.heap.size ∧ w'.cell? ⟨b, x, none⟩ = some (.string u) ∧ w'.cell? ⟨b, x + 1, none⟩ = some (.int .u8 s) ∧ w'.cell? ⟨b', y, none⟩ = some (.string u') ∧ w'.cell? ⟨b', y + 1, none⟩ = some (.int .u8 s')
theorem PJ.step {wr : World} {b x b' y : Nat} {u : ByteArray} {s : Int} {u' : ByteArray} {s' : Int} {w1 w2 : World} (h : PJ wr b x b' y u s u' s' w1) (hb : Below w1.heap.size w1 w2) : PJ wr b x b' y u s u' s' w2 := by
  obtain ⟨h0, h1, h2, x0, x1, y0, y1⟩ := h
  have e1 : b < w1.heap.size := Nat.lt_of_lt_of_le h1 h0.size
  have e2 : b' < w1.heap.size := Nat.lt_of_lt_of_le h2 h0.size
  exact ⟨h0.trans (hb.mono h0.size), h1, h2, (hb.cell e1).trans x0, (hb.cell e1).trans x1, (hb.cell e2).trans y0, (hb.cell e2).trans y1⟩
/-- Four tokens of the corners. -/
def QJ (wr : World) (g : Nat) (S : Nat → Cn) (w' : World) : Prop :=
  Below wr.heap.size wr w' ∧ g < wr.heap.size ∧ w'.cell? ⟨g, 0, none⟩ = some (.pointer none) ∧ w'.cell? ⟨g, 1, none⟩ = some (.string (S 0).t) ∧ w'.cell? ⟨g, 2, none⟩ = some (.int .i32 0) ∧ w'.cell? ⟨g, 3, none⟩ = some (.int .u32 0) ∧ w'.cell? ⟨g, 4, none⟩ = some (.int .u16 0) ∧ w'.cell? ⟨g, 5, none⟩ = some (.int .u8 (S 0).k) ∧ w'.cell? ⟨g, 6, none⟩ = some (.int .u8 0) ∧ w'.cell? ⟨g, 18, none⟩ = some (.pointer none) ∧ w'.cell? ⟨g, 19, none⟩ = some (.string (S 1).t) ∧ w'.cell? ⟨g, 20, none⟩ = some (.int .i32 0) ∧ w'.cell? ⟨g, 21, none⟩ = some (.int .u32 0) ∧ w'.cell? ⟨g, 22, none⟩ = some (.int .u16 0) ∧ w'.cell? ⟨g, 23, none⟩ = some (.int .u8 (S 1).k) ∧ w'.cell? ⟨g, 24, none⟩ = some (.int .u8 0) ∧ w'.cell? ⟨g, 36, none⟩ = some (.pointer none) ∧ w'.cell? ⟨g, 37, none⟩ = some (.string (S 2).t) ∧ w'.cell? ⟨g, 38, none⟩ = some (.int .i32 0) ∧ w'.cell? ⟨g, 39, none⟩ = some (.int .u32 0) ∧ w'.cell? ⟨g, 40, none⟩ = some (.int .u16 0) ∧ w'.cell? ⟨g, 41, none⟩ = some (.int .u8 (S 2).k) ∧ w'.cell? ⟨g, 42, none⟩ = some (.int .u8 0) ∧ w'.cell? ⟨g, 54, none⟩ = some (.pointer none) ∧ w'.cell? ⟨g, 55, none⟩ = some (.string (S 3).t) ∧ w'.cell? ⟨g, 56, none⟩ = some (.int .i32 0) ∧ w'.cell? ⟨g, 57, none⟩ = some (.int .u32 0) ∧ w'.cell? ⟨g, 58, none⟩ = some (.int .u16 0) ∧ w'.cell? ⟨g, 59, none⟩ = some (.int .u8 (S 3).k) ∧ w'.cell? ⟨g, 60, none⟩ = some (.int .u8 0)
theorem QJ.step {wr : World} {g : Nat} {S : Nat → Cn} {w1 w2 : World} (h : QJ wr g S w1) (hb : Below w1.heap.size w1 w2) : QJ wr g S w2 := by
  obtain ⟨h0, h1, x0, x1, x2, x3, x4, x5, x6, x18, x19, x20, x21, x22, x23, x24, x36, x37, x38, x39, x40, x41, x42, x54, x55, x56, x57, x58, x59, x60⟩ := h
  have e1 : g < w1.heap.size := Nat.lt_of_lt_of_le h1 h0.size
  exact ⟨h0.trans (hb.mono h0.size), h1, (hb.cell e1).trans x0, (hb.cell e1).trans x1, (hb.cell e1).trans x2, (hb.cell e1).trans x3, (hb.cell e1).trans x4, (hb.cell e1).trans x5, (hb.cell e1).trans x6, (hb.cell e1).trans x18, (hb.cell e1).trans x19, (hb.cell e1).trans x20, (hb.cell e1).trans x21, (hb.cell e1).trans x22, (hb.cell e1).trans x23, (hb.cell e1).trans x24, (hb.cell e1).trans x36, (hb.cell e1).trans x37, (hb.cell e1).trans x38, (hb.cell e1).trans x39, (hb.cell e1).trans x40, (hb.cell e1).trans x41, (hb.cell e1).trans x42, (hb.cell e1).trans x54, (hb.cell e1).trans x55, (hb.cell e1).trans x56, (hb.cell e1).trans x57, (hb.cell e1).trans x58, (hb.cell e1).trans x59, (hb.cell e1).trans x60⟩
theorem QJ.le {wr : World} {g : Nat} {S : Nat → Cn} {w1 : World} {tg : Nat} (h : QJ wr g S w1) (hge : w1.heap.size ≤ tg) : wr.heap.size ≤ tg := Nat.le_trans h.1.size hge
/-- Four tokens of the corners. -/
def QK (wr : World) (g : Nat) (S : Nat → Cn) (w' : World) : Prop :=
  Below wr.heap.size wr w' ∧ g < wr.heap.size ∧ w'.cell? ⟨g, 7, none⟩ = some (.pointer none) ∧ w'.cell? ⟨g, 8, none⟩ = some (.string (S 0).t2) ∧ w'.cell? ⟨g, 9, none⟩ = some (.int .i32 0) ∧ w'.cell? ⟨g, 10, none⟩ = some (.int .u32 0) ∧ w'.cell? ⟨g, 11, none⟩ = some (.int .u16 0) ∧ w'.cell? ⟨g, 12, none⟩ = some (.int .u8 (S 0).k2) ∧ w'.cell? ⟨g, 13, none⟩ = some (.int .u8 0) ∧ w'.cell? ⟨g, 25, none⟩ = some (.pointer none) ∧ w'.cell? ⟨g, 26, none⟩ = some (.string (S 1).t2) ∧ w'.cell? ⟨g, 27, none⟩ = some (.int .i32 0) ∧ w'.cell? ⟨g, 28, none⟩ = some (.int .u32 0) ∧ w'.cell? ⟨g, 29, none⟩ = some (.int .u16 0) ∧ w'.cell? ⟨g, 30, none⟩ = some (.int .u8 (S 1).k2) ∧ w'.cell? ⟨g, 31, none⟩ = some (.int .u8 0) ∧ w'.cell? ⟨g, 43, none⟩ = some (.pointer none) ∧ w'.cell? ⟨g, 44, none⟩ = some (.string (S 2).t2) ∧ w'.cell? ⟨g, 45, none⟩ = some (.int .i32 0) ∧ w'.cell? ⟨g, 46, none⟩ = some (.int .u32 0) ∧ w'.cell? ⟨g, 47, none⟩ = some (.int .u16 0) ∧ w'.cell? ⟨g, 48, none⟩ = some (.int .u8 (S 2).k2) ∧ w'.cell? ⟨g, 49, none⟩ = some (.int .u8 0) ∧ w'.cell? ⟨g, 61, none⟩ = some (.pointer none) ∧ w'.cell? ⟨g, 62, none⟩ = some (.string (S 3).t2) ∧ w'.cell? ⟨g, 63, none⟩ = some (.int .i32 0) ∧ w'.cell? ⟨g, 64, none⟩ = some (.int .u32 0) ∧ w'.cell? ⟨g, 65, none⟩ = some (.int .u16 0) ∧ w'.cell? ⟨g, 66, none⟩ = some (.int .u8 (S 3).k2) ∧ w'.cell? ⟨g, 67, none⟩ = some (.int .u8 0)
theorem QK.step {wr : World} {g : Nat} {S : Nat → Cn} {w1 w2 : World} (h : QK wr g S w1) (hb : Below w1.heap.size w1 w2) : QK wr g S w2 := by
  obtain ⟨h0, h1, x7, x8, x9, x10, x11, x12, x13, x25, x26, x27, x28, x29, x30, x31, x43, x44, x45, x46, x47, x48, x49, x61, x62, x63, x64, x65, x66, x67⟩ := h
  have e1 : g < w1.heap.size := Nat.lt_of_lt_of_le h1 h0.size
  exact ⟨h0.trans (hb.mono h0.size), h1, (hb.cell e1).trans x7, (hb.cell e1).trans x8, (hb.cell e1).trans x9, (hb.cell e1).trans x10, (hb.cell e1).trans x11, (hb.cell e1).trans x12, (hb.cell e1).trans x13, (hb.cell e1).trans x25, (hb.cell e1).trans x26, (hb.cell e1).trans x27, (hb.cell e1).trans x28, (hb.cell e1).trans x29, (hb.cell e1).trans x30, (hb.cell e1).trans x31, (hb.cell e1).trans x43, (hb.cell e1).trans x44, (hb.cell e1).trans x45, (hb.cell e1).trans x46, (hb.cell e1).trans x47, (hb.cell e1).trans x48, (hb.cell e1).trans x49, (hb.cell e1).trans x61, (hb.cell e1).trans x62, (hb.cell e1).trans x63, (hb.cell e1).trans x64, (hb.cell e1).trans x65, (hb.cell e1).trans x66, (hb.cell e1).trans x67⟩
theorem QK.le {wr : World} {g : Nat} {S : Nat → Cn} {w1 : World} {tg : Nat} (h : QK wr g S w1) (hge : w1.heap.size ≤ tg) : wr.heap.size ≤ tg := Nat.le_trans h.1.size hge
theorem three {k : Nat} (h : k < 3) : k = 0 ∨ k = 1 ∨ k = 2 := by omega
/-- The corners as far as the loop has looked. -/
def sf (S : Nat → Cn) (k : Nat) : Bool := safe (S (k + 1)).u (S (k + 1)).st (S 0).u (S 0).st
def C72 (S : Nat → Cn) (R : Nat → Nat) : List Value := [.pointer none, .string (S 0).t, .int .i32 0, .int .u32 0, .int .u16 0, .int .u8 (S 0).k, .int .u8 0, .pointer none, .string (S 0).t2, .int .i32 0, .int .u32 0, .int .u16 0, .int .u8 (S 0).k2, .int .u8 0, .string (S 0).u, .int .u8 (S 0).st, .int .u32 ((R 0 : Nat) : Int), .bool (S 0).b, .pointer none, .string (S 1).t, .int .i32 0, .int .u32 0, .int .u16 0, .int .u8 (S 1).k, .int .u8 0, .pointer none, .string (S 1).t2, .int .i32 0, .int .u32 0, .int .u16 0, .int .u8 (S 1).k2, .int .u8 0, .string (S 1).u, .int .u8 (S 1).st, .int .u32 ((R 1 : Nat) : Int), .bool (S 1).b, .pointer none, .string (S 2).t, .int .i32 0, .int .u32 0, .int .u16 0, .int .u8 (S 2).k, .int .u8 0, .pointer none, .string (S 2).t2, .int .i32 0, .int .u32 0, .int .u16 0, .int .u8 (S 2).k2, .int .u8 0, .string (S 2).u, .int .u8 (S 2).st, .int .u32 ((R 2 : Nat) : Int), .bool (S 2).b, .pointer none, .string (S 3).t, .int .i32 0, .int .u32 0, .int .u16 0, .int .u8 (S 3).k, .int .u8 0, .pointer none, .string (S 3).t2, .int .i32 0, .int .u32 0, .int .u16 0, .int .u8 (S 3).k2, .int .u8 0, .string (S 3).u, .int .u8 (S 3).st, .int .u32 ((R 3 : Nat) : Int), .bool (S 3).b]
theorem Tk.corners {w : World} {g : Nat} {S : Nat → Cn} {im : Bool} (h : Tk w g S im) {R : Nat → Nat} (hr : ∀ s, s < 4 → (S s).r = (R s : Int)) : w.rangeAt g 0 (C72 S R) := by
  intro j v hj
  have hl : j < 72 := (List.getElem?_eq_some_iff.1 hj).1
  have e : C72 S R = cl (S 0) ++ cl (S 1) ++ cl (S 2) ++ cl (S 3) := by
    simp [C72, cl, hr 0 (by omega), hr 1 (by omega), hr 2 (by omega), hr 3 (by omega)]
  rw [e] at hj
  rw [Nat.zero_add]
  have h1 : ∀ k, k < 4 → ∀ d, d < 18 → j = k * 18 + d → w.cell? ⟨g, j, none⟩ = some ((cl (S k))[d]?.getD undef) := fun k hk d hd e => e ▸ h.at hk hd
  have hlen : ∀ x : Cn, (cl x).length = 18 := cl_len
  rcases (by omega : j < 18 ∨ (18 ≤ j ∧ j < 36) ∨ (36 ≤ j ∧ j < 54) ∨ 54 ≤ j) with q | q | q | q
  · rw [h1 0 (by omega) j q (by omega)]
    rw [List.getElem?_append_left (by simp [hlen]; omega), List.getElem?_append_left (by simp [hlen]; omega), List.getElem?_append_left (by simp [hlen]; omega)] at hj
    rw [hj]; rfl
  · rw [h1 1 (by omega) (j - 18) (by omega) (by omega)]
    rw [List.getElem?_append_left (by simp [hlen]; omega), List.getElem?_append_left (by simp [hlen]; omega), List.getElem?_append_right (by simp [hlen]; omega)] at hj
    simp only [List.length_append, hlen] at hj
    rw [hj]; rfl
  · rw [h1 2 (by omega) (j - 36) (by omega) (by omega)]
    rw [List.getElem?_append_left (by simp [hlen]; omega), List.getElem?_append_right (by simp [hlen]; omega)] at hj
    simp only [List.length_append, hlen] at hj
    rw [hj]; rfl
  · rw [h1 3 (by omega) (j - 54) (by omega) (by omega)]
    rw [List.getElem?_append_right (by simp [hlen]; omega)] at hj
    simp only [List.length_append, hlen] at hj
    rw [hj]; rfl
theorem ix0 (S : Nat → Cn) (R : Nat → Nat) (W : World) : (Instr.index 76 (.agg (C72 S R).toArray) (.int .i64 0)).run Tryd.prog W = .ok (.agg #[.pointer none, .string (S 0).t, .int .i32 0, .int .u32 0, .int .u16 0, .int .u8 (S 0).k, .int .u8 0, .pointer none, .string (S 0).t2, .int .i32 0, .int .u32 0, .int .u16 0, .int .u8 (S 0).k2, .int .u8 0, .string (S 0).u, .int .u8 (S 0).st, .int .u32 ((R 0 : Nat) : Int), .bool (S 0).b]) W := by kernel_rfl
theorem ix1 (S : Nat → Cn) (R : Nat → Nat) (W : World) : (Instr.index 76 (.agg (C72 S R).toArray) (.int .i64 1)).run Tryd.prog W = .ok (.agg #[.pointer none, .string (S 1).t, .int .i32 0, .int .u32 0, .int .u16 0, .int .u8 (S 1).k, .int .u8 0, .pointer none, .string (S 1).t2, .int .i32 0, .int .u32 0, .int .u16 0, .int .u8 (S 1).k2, .int .u8 0, .string (S 1).u, .int .u8 (S 1).st, .int .u32 ((R 1 : Nat) : Int), .bool (S 1).b]) W := by kernel_rfl
theorem ix2 (S : Nat → Cn) (R : Nat → Nat) (W : World) : (Instr.index 76 (.agg (C72 S R).toArray) (.int .i64 2)).run Tryd.prog W = .ok (.agg #[.pointer none, .string (S 2).t, .int .i32 0, .int .u32 0, .int .u16 0, .int .u8 (S 2).k, .int .u8 0, .pointer none, .string (S 2).t2, .int .i32 0, .int .u32 0, .int .u16 0, .int .u8 (S 2).k2, .int .u8 0, .string (S 2).u, .int .u8 (S 2).st, .int .u32 ((R 2 : Nat) : Int), .bool (S 2).b]) W := by kernel_rfl
theorem ix3 (S : Nat → Cn) (R : Nat → Nat) (W : World) : (Instr.index 76 (.agg (C72 S R).toArray) (.int .i64 3)).run Tryd.prog W = .ok (.agg #[.pointer none, .string (S 3).t, .int .i32 0, .int .u32 0, .int .u16 0, .int .u8 (S 3).k, .int .u8 0, .pointer none, .string (S 3).t2, .int .i32 0, .int .u32 0, .int .u16 0, .int .u8 (S 3).k2, .int .u8 0, .string (S 3).u, .int .u8 (S 3).st, .int .u32 ((R 3 : Nat) : Int), .bool (S 3).b]) W := by kernel_rfl
/-- The rules, and the least location, after k sides. -/
def dk (D : Nat → Option Nat) (R : Nat → Nat) : Nat → Nat → Option Nat
  | 0 => D
  | k + 1 => fun i => if i = R k then none else dk D R k i
def lk (Lc : Nat → Int) (R : Nat → Nat) : Nat → Nat → Int
  | 0 => Lc
  | k + 1 => fun i => if i = R k then 0 else lk Lc R k i
def ml (Lc : Nat → Int) (R : Nat → Nat) : Nat → Int
  | 0 => 0
  | k + 1 => if k = 0 ∨ lk Lc R k (R k) < ml Lc R k then lk Lc R k (R k) else ml Lc R k
def FQ (g rg kr mb r : Nat) (im : Bool) (ks kl m : Int) (w' : World) : Prop :=
  w'.cell? ⟨g, 70, none⟩ = some (.int .u32 ((r : Nat) : Int)) ∧ w'.cell? ⟨g, 72, none⟩ = some (.bool im) ∧ w'.cell? ⟨kr, 0, none⟩ = some (.int .i32 ks) ∧ w'.cell? ⟨kr, 1, none⟩ = some (.int .i32 kl) ∧ w'.cell? ⟨mb, 0, none⟩ = some (.int .i32 m) ∧ (w'.cell? ⟨rg, r * 2, none⟩).isSome = true ∧ (w'.cell? ⟨rg, r * 2 + 1, none⟩).isSome = true ∧ w'.frozen? ⟨rg, r * 2, none⟩ = false ∧ w'.frozen? ⟨rg, r * 2 + 1, none⟩ = false
theorem FQ.step {g rg kr mb r : Nat} {im : Bool} {ks kl m : Int} {w1 w2 : World} (h : FQ g rg kr mb r im ks kl m w1) (hb : Below w1.heap.size w1 w2) : FQ g rg kr mb r im ks kl m w2 := by
  obtain ⟨x0, x2, x4, x5, x6, x7, x8, x9, x10⟩ := h
  have l1 : g < w1.heap.size := World.block_lt_of_cell? w1 _ x0
  have l2 : kr < w1.heap.size := World.block_lt_of_cell? w1 _ x4
  have l3 : mb < w1.heap.size := World.block_lt_of_cell? w1 _ x6
  have l4 : rg < w1.heap.size := by
    obtain ⟨u, hu⟩ := Option.isSome_iff_exists.1 x7
    exact World.block_lt_of_cell? w1 _ hu
  exact ⟨(hb.cell l1).trans x0, (hb.cell l1).trans x2, (hb.cell l2).trans x4, (hb.cell l2).trans x5, (hb.cell l3).trans x6, by rw [hb.cell (p := ⟨rg, r * 2, none⟩) l4]; exact x7, by rw [hb.cell (p := ⟨rg, r * 2 + 1, none⟩) l4]; exact x8, (hb.frozen (p := ⟨rg, r * 2, none⟩) l4).trans x9, (hb.frozen (p := ⟨rg, r * 2 + 1, none⟩) l4).trans x10⟩
theorem FQ.put {g rg kr mb r : Nat} {im : Bool} {ks kl m : Int} {w1 : World} (h : FQ g rg kr mb r im ks kl m w1) (h1 : g ≠ rg) (h2 : kr ≠ rg) (h3 : mb ≠ rg) (v1 v2 : Value) :
    FQ g rg kr mb r im ks kl m ((w1.setCell ⟨rg, r * 2, none⟩ v1).setCell ⟨rg, r * 2 + 1, none⟩ v2) := by
  obtain ⟨x0, x2, x4, x5, x6, x7, x8, x9, x10⟩ := h
  obtain ⟨u, hu⟩ := Option.isSome_iff_exists.1 x7
  obtain ⟨v, hv⟩ := Option.isSome_iff_exists.1 x8
  have e1 : ¬ rg = g := fun h => h1 h.symm
  have e2 : ¬ rg = kr := fun h => h2 h.symm
  have e3 : ¬ rg = mb := fun h => h3 h.symm
  refine ⟨?_, ?_, ?_, ?_, ?_, ?_, ?_, ?_, ?_⟩
  all_goals (set_option linter.unusedSimpArgs false in simp [go_sem, x0, x2, x4, x5, x6, hu, hv, x9, x10, h1, h2, h3, e1, e2, e3])
/-- The rules behind the shorthand's making. -/
def fD (D : Nat → Option Nat) (R : Nat → Nat) (d : Nat) : Nat → Option Nat := fun i => if i = R 3 then some d else dk D R 4 i
def fL (Lc : Nat → Int) (R : Nat → Nat) : Nat → Int := fun i => if i = R 3 then ml Lc R 4 else lk Lc R 4 i
def Comp16 (rg n : Nat) (S : Nat → Cn) (im : Bool) (ks kl : Int) (mw : Bool) (D : Nat → Option Nat) (Lc : Nat → Int) (R : Nat → Nat) (w : World) (e : Ending) (w' : World) : Prop :=
  e = .returned (.tuple #[]) ∧ ∃ d tg W', Tab w' rg 54 2 n (rc (fD D R d) (fL Lc R)) ∧ Blk w' d 40 #[.string ⟨#[98, 111, 114, 100, 101, 114, 45, 114, 97, 100, 105, 117, 115]⟩, .slice (some ⟨tg, 0, none⟩) (cm (fun i => (S i).k) (fun i => (S i).t)) 4, .int .i32 ks, .int .i32 kl, .int .u16 66, .bool im] ∧
    TR w' (some ⟨tg, 0, none⟩) (cm (fun i => (S i).k) (fun i => (S i).t)) (tc (fun i => (S i).k) (fun i => (S i).t) W' (fun _ => 0)) ∧ (∀ i, i < cm (fun i => (S i).k) (fun i => (S i).t) → W' i = wsv (cm (fun i => (S i).k) (fun i => (S i).t)) mw i) ∧ Kept w.heap.size rg w w' ∧ w.heap.size ≤ d
theorem TR.keep {w w' : World} {tg n rg : Nat} {f : Nat → Nat → Value} (h : TR w (some ⟨tg, 0, none⟩) n f) (k : Kept w.heap.size rg w w') (hne : ¬ tg = rg) : TR w' (some ⟨tg, 0, none⟩) n f := by
  intro hn
  obtain ⟨b, o, e, hl, hc⟩ := h hn
  cases e
  exact ⟨tg, 0, rfl, Nat.lt_of_lt_of_le hl k.size, fun i j hi hj => by rw [k.cell _ hl hne]; exact hc i j hi hj⟩
theorem rc_last {w : World} {rg n : Nat} {D : Nat → Option Nat} {Lc : Nat → Int} {R : Nat → Nat} (h : Tab w rg 54 2 n (rc (dk D R 4) (lk Lc R 4))) (hR : R 3 < n) (d : Nat) :
    Tab ((w.setCell ⟨rg, R 3 * 2, none⟩ (.iface 25 (.pointer (some ⟨d, 0, none⟩)))).setCell ⟨rg, R 3 * 2 + 1, none⟩ (.int .i32 (ml Lc R 4))) rg 54 2 n (rc (fD D R d) (fL Lc R)) := by
  refine ((h.set hR (j := 0) (by omega) (.iface 25 (.pointer (some ⟨d, 0, none⟩)))).set hR (j := 1) (by omega) (.int .i32 (ml Lc R 4))).ext fun i j hi hj => ?_
  by_cases e : i = R 3
  · rcases (by omega : j = 0 ∨ j = 1) with rfl | rfl <;> simp [upd, rc, fD, fL, e, dv]
  · rcases (by omega : j = 0 ∨ j = 1) with rfl | rfl <;> simp [upd, rc, fD, fL, e]
theorem ml_yes {Lc : Nat → Int} {R : Nat → Nat} {k : Nat} (h : k = 0 ∨ lk Lc R k (R k) < ml Lc R k) : ml Lc R (k + 1) = lk Lc R k (R k) := if_pos h
theorem ml_no {Lc : Nat → Int} {R : Nat → Nat} {k : Nat} (h : ¬ (k = 0 ∨ lk Lc R k (R k) < ml Lc R k)) : ml Lc R (k + 1) = ml Lc R k := if_neg h
theorem blk_as {w : World} {g : Nat} {t : TypeId} {cs cs' : Array Value} (h : Blk w g t cs) (e : cs = cs') : Blk w g t cs' := e ▸ h
theorem kalloc {g : Nat} {a w : World} (h : Kept a.heap.size g a w) (o : Obj) : Kept a.heap.size g a (w.alloc o) := h.alloc h.size o
theorem rc_step {w : World} {rg n k : Nat} {D : Nat → Option Nat} {Lc : Nat → Int} {R : Nat → Nat} (h : Tab w rg 54 2 n (rc (dk D R k) (lk Lc R k))) (hR : R k < n) :
    Tab ((w.setCell ⟨rg, R k * 2, none⟩ .nilIface).setCell ⟨rg, R k * 2 + 1, none⟩ (.int .i32 0)) rg 54 2 n (rc (dk D R (k + 1)) (lk Lc R (k + 1))) := by
  refine ((h.set hR (j := 0) (by omega) .nilIface).set hR (j := 1) (by omega) (.int .i32 0)).ext fun i j hi hj => ?_
  by_cases e : i = R k
  · rcases (by omega : j = 0 ∨ j = 1) with rfl | rfl <;> simp [upd, rc, dk, lk, e, dv]
  · rcases (by omega : j = 0 ∨ j = 1) with rfl | rfl <;> simp [upd, rc, dk, lk, e]
theorem sf_step {S : Nat → Cn} {k : Nat} (h : ∀ j, j < k → sf S j = true) (hs : sf S k = true) : ∀ j, j < k + 1 → sf S j = true := fun j hj => by
  rcases Nat.lt_or_eq_of_le (Nat.le_of_lt_succ hj) with h1 | h1
  · exact h j h1
  · rw [h1]; exact hs
end Go.Proofs.YtnolnlekdlfeaaaDoor.ZT
