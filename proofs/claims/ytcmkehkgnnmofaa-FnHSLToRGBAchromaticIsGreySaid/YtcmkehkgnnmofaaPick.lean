/- math.Min and math.Max on finite words. Plain Lean over the model's own entry. -/
import Derived.Test.YtcmkehkgnnmofaaFloat
import GoSem.Extern.MathDim
namespace Go.Proofs.Ytcmkehkgnnmofaa.FL
open Ieee

theorem pick_fin (name : String) (neg : Bool) (win : Ordering) {x y : Nat} (hx : Fin x) (hy : Fin y) :
    ∃ r, Go.Extern.MathDim.pick name neg win #[.float .f64 x, .float .f64 y] = pure (.float .f64 r) ∧ (r = x ∨ r = y) ∧
      ((rv x = 0 ∧ rv y = 0) ∨ (double.order x y = some win ∧ r = x) ∨ (double.order x y ≠ some win ∧ r = y)) := by
  obtain ⟨m, i, ex⟩ := read_fin hx
  obtain ⟨n, j, ey⟩ := read_fin hy
  have dx : FloatKind.f64.decode x = .number (x / 2 ^ 63 % 2 == 1) m i := ex
  have dy : FloatKind.f64.decode y = .number (y / 2 ^ 63 % 2 == 1) n j := ey
  have vx := rv_read ex
  have vy := rv_read ey
  refine ⟨_, rfl, ?_⟩
  rw [dx, dy]
  have ho : double.order x y = (Datum.number (x / 2 ^ 63 % 2 == 1) m i).order (Datum.number (y / 2 ^ 63 % 2 == 1) n j) := by
    unfold Format.order; rw [ex, ey]
  rw [ho]
  generalize (x / 2 ^ 63 % 2 == 1) = s at *
  generalize (y / 2 ^ 63 % 2 == 1) = t at *
  generalize hoo : (Datum.number s m i).order (Datum.number t n j) = oo
  have e1 : (Datum.number s m i == Datum.infinity neg) = false := by simp
  have e2 : (Datum.number t n j == Datum.infinity neg) = false := by simp
  rw [e1, e2]
  simp only [Bool.or_self, Bool.false_eq_true, if_false, Datum.isNaN]
  by_cases hz : ((Datum.number s m i).isZero && (Datum.number t n j).isZero) = true
  · have hm : m = 0 ∧ n = 0 := by
      simp only [Datum.isZero, Bool.and_eq_true] at hz
      constructor
      · cases m with
        | zero => rfl
        | succ k => simp at hz
      · cases n with
        | zero => rfl
        | succ k => simp at hz
    rw [if_pos hz]
    constructor
    · split
      · exact Or.inl rfl
      · exact Or.inr rfl
    · left; rw [vx, vy, hm.1, hm.2]; simp
  · rw [if_neg hz]
    by_cases hw : oo = some win
    · rw [if_pos (by simpa using hw)]
      exact ⟨Or.inl rfl, Or.inr (Or.inl ⟨hw, rfl⟩)⟩
    · rw [if_neg (by simpa using hw)]
      exact ⟨Or.inr rfl, Or.inr (Or.inr ⟨hw, rfl⟩)⟩

theorem min_fin (name : String) {x y : Nat} (hx : Fin x) (hy : Fin y) :
    ∃ r, Go.Extern.MathDim.pick name true .lt #[.float .f64 x, .float .f64 y] = pure (.float .f64 r) ∧ (r = x ∨ r = y) ∧ rv r ≤ rv x ∧ rv r ≤ rv y := by
  obtain ⟨r, e, h1, h2⟩ := pick_fin name true .lt hx hy
  refine ⟨r, e, h1, ?_⟩
  rcases h2 with ⟨a, b⟩ | ⟨a, rfl⟩ | ⟨a, rfl⟩
  · rcases h1 with rfl | rfl <;> grind
  · rcases order_fin hx hy with ⟨h, _⟩ | ⟨_, h⟩ | ⟨_, h⟩
    · grind
    · rw [h] at a; cases a
    · rw [h] at a; cases a
  · rcases order_fin hx hy with ⟨_, h⟩ | ⟨h, _⟩ | ⟨h, _⟩
    · exact absurd h a
    · grind
    · grind

theorem max_fin (name : String) {x y : Nat} (hx : Fin x) (hy : Fin y) :
    ∃ r, Go.Extern.MathDim.pick name false .gt #[.float .f64 x, .float .f64 y] = pure (.float .f64 r) ∧ (r = x ∨ r = y) ∧ rv x ≤ rv r ∧ rv y ≤ rv r := by
  obtain ⟨r, e, h1, h2⟩ := pick_fin name false .gt hx hy
  refine ⟨r, e, h1, ?_⟩
  rcases h2 with ⟨a, b⟩ | ⟨a, rfl⟩ | ⟨a, rfl⟩
  · rcases h1 with rfl | rfl <;> grind
  · rcases order_fin hx hy with ⟨_, h⟩ | ⟨_, h⟩ | ⟨h, _⟩
    · rw [h] at a; cases a
    · rw [h] at a; cases a
    · grind
  · rcases order_fin hx hy with ⟨h, _⟩ | ⟨h, _⟩ | ⟨_, h⟩
    · grind
    · grind
    · exact absurd h a
end Go.Proofs.Ytcmkehkgnnmofaa.FL
