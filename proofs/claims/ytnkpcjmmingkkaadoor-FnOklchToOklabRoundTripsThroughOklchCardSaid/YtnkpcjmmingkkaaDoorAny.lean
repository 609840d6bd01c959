/- The contracts of helpers.F64's methods for any operands. Written by gen_any.py. -/
import Derived.Test.YtnkpcjmmingkkaaDoorF64
import Derived.Test.YtnkpcjmmingkkaaDoorFloat
namespace Go.Proofs.YtnkpcjmmingkkaaDoor.F64
open Go.RowKit
/-- The word is a NaN. -/
def IsNaN (z : Nat) : Prop := 2047 * 2 ^ 52 < z % 2 ^ 63
theorem nan_read {z : Nat} (h : IsNaN z) : ∃ s t, Ieee.double.read z = .nan s t := ⟨_, _, FL.read_nan h⟩
theorem nan_order {z y : Nat} (h : IsNaN z) : Ieee.double.order z y = none := by
  obtain ⟨s, t, e⟩ := nan_read h
  unfold Ieee.Format.order; rw [e]; rfl
theorem order_nan {z y : Nat} (h : IsNaN z) : Ieee.double.order y z = none := by
  obtain ⟨s, t, e⟩ := nan_read h
  unfold Ieee.Format.order; rw [e]; cases Ieee.double.read y <;> rfl
/-- The NaN that the tape gives. -/
def nz (w : World) (x y : Nat) : Nat := (Question.nanBits .f64 x y).cut (w.tape w.drawn (.nanBits .f64 x y))
theorem nz_nan (w : World) (x y : Nat) : IsNaN (nz w x y) := by
  unfold IsNaN nz Question.cut
  generalize w.tape w.drawn (.nanBits .f64 x y) = k
  have h1 : k / 2 % (2 ^ 52 - 1) < 2 ^ 52 - 1 := Nat.mod_lt _ (by decide)
  have h2 : k % 2 < 2 := Nat.mod_lt _ (by decide)
  show 2047 * 2 ^ 52 < (k % 2 * 2 ^ 63 + 9218868437227405312 + 1 + k / 2 % (2 ^ 52 - 1)) % 2 ^ 63
  generalize k / 2 % (2 ^ 52 - 1) = r at *
  generalize k % 2 = s at *
  have : s = 0 ∨ s = 1 := by omega
  rcases this with rfl | rfl <;> omega
theorem run_nz {P : Program} (op : BinOp) (hop : op = .add ∨ op = .sub ∨ op = .mul ∨ op = .quo) (x y : Nat) (h : floatBits op .f64 x y = none) (t : TypeId) (w : World) :
    (binOp op t (.float .f64 x) (.float .f64 y)).run P w = .ok (.float .f64 (nz w x y)) w.drew := by
  unfold floatBits at h
  rcases hop with rfl | rfl | rfl | rfl <;> simp only at h <;> simp [binOp, Op.floatArith, h, Question.forced, nz]
/-- What an operation may answer: its word, or some NaN where it is invalid. -/
def Res (op : BinOp) (x y z : Nat) : Prop := floatBits op .f64 x y = some z ∨ (floatBits op .f64 x y = none ∧ IsNaN z)

theorem addConstA (x y : Nat) (w : World) :
    Calls Tryd.prog 19 #[.agg #[.float .f64 x], .float .f64 y] w fun e w' => ∃ z, Res .add x y z ∧ e = .returned (.agg #[.float .f64 z]) ∧ Below w.heap.size w w' := by
  cases hfb : floatBits .add .f64 x y with
  | some r => exact (addConst x y r w hfb).mono fun e w' h => ⟨r, .inl hfb, h.1, h.2⟩
  | none =>
    have HN := Lib.hid hfb
    have hr := fun (t : TypeId) (w : World) => run_nz (P := Tryd.prog) .add (by simp) x y hfb t w
    clear hfb
    go_enter Tryd.func19, Tryd.ntmps19
    go_wp2_with fail
    clear hr
    refine (newF64 _ _).mono ?_
    rintro e w1 ⟨rfl, hb⟩
    obtain ⟨hc, hf⟩ := bcell hb
    have hz : w.heap.size + 1 < w1.heap.size := by have := hb.size; simp at this; omega
    go_wp2
    refine bodyPost_ret (v := .agg #[.float .f64 _]) (by simp [results, Tryd.results19, go_sem, hc]; rfl) rfl ⟨_, .inr ⟨HN.out, nz_nan _ x y⟩, rfl, ?_⟩
    exact ((((Below.refl _ _).alloc (Nat.le_refl _) _).alloc (by simp) _).drew.trans (hb.mono (by simp; omega))).setCell (by simp) _

theorem addA (x y : Nat) (w : World) :
    Calls Tryd.prog 21 #[.agg #[.float .f64 x], .agg #[.float .f64 y]] w fun e w' => ∃ z, Res .add x y z ∧ e = .returned (.agg #[.float .f64 z]) ∧ Below w.heap.size w w' := by
  cases hfb : floatBits .add .f64 x y with
  | some r => exact (add x y r w hfb).mono fun e w' h => ⟨r, .inl hfb, h.1, h.2⟩
  | none =>
    have HN := Lib.hid hfb
    have hr := fun (t : TypeId) (w : World) => run_nz (P := Tryd.prog) .add (by simp) x y hfb t w
    clear hfb
    go_enter Tryd.func21, Tryd.ntmps21
    go_wp2_with fail
    clear hr
    refine (newF64 _ _).mono ?_
    rintro e w1 ⟨rfl, hb⟩
    obtain ⟨hc, hf⟩ := bcell hb
    have hz : w.heap.size + 1 + 1 < w1.heap.size := by have := hb.size; simp at this; omega
    go_wp2
    refine bodyPost_ret (v := .agg #[.float .f64 _]) (by simp [results, Tryd.results21, go_sem, hc]; rfl) rfl ⟨_, .inr ⟨HN.out, nz_nan _ x y⟩, rfl, ?_⟩
    exact (((((Below.refl _ _).alloc (Nat.le_refl _) _).alloc (by simp) _).alloc (by simp; omega) _).drew.trans (hb.mono (by simp; omega))).setCell (by simp; omega) _

theorem mulConstA (x y : Nat) (w : World) :
    Calls Tryd.prog 14 #[.agg #[.float .f64 x], .float .f64 y] w fun e w' => ∃ z, Res .mul x y z ∧ e = .returned (.agg #[.float .f64 z]) ∧ Below w.heap.size w w' := by
  cases hfb : floatBits .mul .f64 x y with
  | some r => exact (mulConst x y r w hfb).mono fun e w' h => ⟨r, .inl hfb, h.1, h.2⟩
  | none =>
    have HN := Lib.hid hfb
    have hr := fun (t : TypeId) (w : World) => run_nz (P := Tryd.prog) .mul (by simp) x y hfb t w
    clear hfb
    go_enter Tryd.func14, Tryd.ntmps14
    go_wp2_with fail
    clear hr
    refine (newF64 _ _).mono ?_
    rintro e w1 ⟨rfl, hb⟩
    obtain ⟨hc, hf⟩ := bcell hb
    have hz : w.heap.size + 1 < w1.heap.size := by have := hb.size; simp at this; omega
    go_wp2
    refine bodyPost_ret (v := .agg #[.float .f64 _]) (by simp [results, Tryd.results14, go_sem, hc]; rfl) rfl ⟨_, .inr ⟨HN.out, nz_nan _ x y⟩, rfl, ?_⟩
    exact ((((Below.refl _ _).alloc (Nat.le_refl _) _).alloc (by simp) _).drew.trans (hb.mono (by simp; omega))).setCell (by simp) _

theorem mulA (x y : Nat) (w : World) :
    Calls Tryd.prog 16 #[.agg #[.float .f64 x], .agg #[.float .f64 y]] w fun e w' => ∃ z, Res .mul x y z ∧ e = .returned (.agg #[.float .f64 z]) ∧ Below w.heap.size w w' := by
  cases hfb : floatBits .mul .f64 x y with
  | some r => exact (mul x y r w hfb).mono fun e w' h => ⟨r, .inl hfb, h.1, h.2⟩
  | none =>
    have HN := Lib.hid hfb
    have hr := fun (t : TypeId) (w : World) => run_nz (P := Tryd.prog) .mul (by simp) x y hfb t w
    clear hfb
    go_enter Tryd.func16, Tryd.ntmps16
    go_wp2_with fail
    clear hr
    refine (newF64 _ _).mono ?_
    rintro e w1 ⟨rfl, hb⟩
    obtain ⟨hc, hf⟩ := bcell hb
    have hz : w.heap.size + 1 + 1 < w1.heap.size := by have := hb.size; simp at this; omega
    go_wp2
    refine bodyPost_ret (v := .agg #[.float .f64 _]) (by simp [results, Tryd.results16, go_sem, hc]; rfl) rfl ⟨_, .inr ⟨HN.out, nz_nan _ x y⟩, rfl, ?_⟩
    exact (((((Below.refl _ _).alloc (Nat.le_refl _) _).alloc (by simp) _).alloc (by simp; omega) _).drew.trans (hb.mono (by simp; omega))).setCell (by simp; omega) _

end Go.Proofs.YtnkpcjmmingkkaaDoor.F64
