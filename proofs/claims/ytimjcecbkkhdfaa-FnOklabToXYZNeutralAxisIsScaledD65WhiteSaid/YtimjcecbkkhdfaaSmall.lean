/- The verifier's small helpers on floats: what each hands back. Written by gen_small.py. -/
import Derived.Test.YtimjcecbkkhdfaaRow
namespace Go.Proofs.Ytimjcecbkkhdfaa.F64
open Go.RowKit Go.Proofs.Ytimjcecbkkhdfaa.FL
theorem negf (b : Nat) : Op.negFloat .f64 b = b ^^^ 2 ^ 63 := rfl
/-- The word is a NaN. -/
def IsNaN (z : Nat) : Prop := 2047 * 2 ^ 52 < z % 2 ^ 63
theorem nan_read {z : Nat} (h : IsNaN z) : ∃ s t, Ieee.double.read z = .nan s t := ⟨_, _, read_nan h⟩
theorem nan_order {z y : Nat} (h : IsNaN z) : Ieee.double.order z y = none := by
  obtain ⟨s, t, e⟩ := nan_read h
  unfold Ieee.Format.order; rw [e]; rfl
theorem order_nan {z y : Nat} (h : IsNaN z) : Ieee.double.order y z = none := by
  obtain ⟨s, t, e⟩ := nan_read h
  unfold Ieee.Format.order; rw [e]; cases Ieee.double.read y <;> rfl
/-- An invalid operation draws some NaN. -/
theorem run_nan {P : Program} (op : BinOp) (hop : op = .add ∨ op = .sub ∨ op = .mul ∨ op = .quo) (t : TypeId) (x y : Nat) (w : World) (h : floatBits op .f64 x y = none) :
    ∃ z, IsNaN z ∧ (binOp op t (.float .f64 x) (.float .f64 y)).run P w = .ok (.float .f64 z) w.drew := by
  refine ⟨(Question.nanBits .f64 x y).cut (w.tape w.drawn (.nanBits .f64 x y)), ?_, ?_⟩
  · unfold IsNaN Question.cut
    generalize w.tape w.drawn (.nanBits .f64 x y) = k
    have h1 : k / 2 % (2 ^ 52 - 1) < 2 ^ 52 - 1 := Nat.mod_lt _ (by decide)
    have h2 : k % 2 < 2 := Nat.mod_lt _ (by decide)
    show 2047 * 2 ^ 52 < (k % 2 * 2 ^ 63 + 9218868437227405312 + 1 + k / 2 % (2 ^ 52 - 1)) % 2 ^ 63
    generalize k / 2 % (2 ^ 52 - 1) = r at *
    generalize k % 2 = s at *
    have : s = 0 ∨ s = 1 := by omega
    rcases this with rfl | rfl <;> omega
  · unfold floatBits at h
    rcases hop with rfl | rfl | rfl | rfl <;> simp only at h <;> simp [binOp, Op.floatArith, h, Question.forced]
theorem fin_zero : FL.Fin 0 := by unfold FL.Fin; omega
theorem rv_zero : rv 0 = 0 := rv_word_zero false
theorem order_self_fin {x : Nat} (h : FL.Fin x) : Ieee.double.order x x = some .eq := by
  rcases order_fin h h with ⟨h, _⟩ | ⟨_, h⟩ | ⟨h, _⟩
  · grind
  · exact h
  · grind
def absw (x : Nat) : Nat := if rv x < 0 then x ^^^ 2 ^ 63 else x
theorem absw_fin {x : Nat} (h : FL.Fin x) : FL.Fin (absw x) := by unfold absw; split; exact neg_fin h; exact h
theorem absw_rv {x : Nat} (h : FL.Fin x) : 0 ≤ rv (absw x) ∧ rv x ≤ rv (absw x) ∧ - rv x ≤ rv (absw x) ∧ (rv (absw x) = rv x ∨ rv (absw x) = - rv x) := by
  unfold absw; split
  · rw [neg_rv h]; grind
  · grind

theorem zzAbs (x : Nat) (w : World) (hx : FL.Fin x) :
    Calls Try.prog 6 #[.float .f64 x] w fun e w' => e = .returned (.float .f64 (absw x)) ∧ w = w' := by
  have hz := fin_zero
  have h0 := rv_zero
  by_cases hn : rv x < 0
  · have o1 : FloatKind.f64.format.order x 0 = some .lt := by
      rcases order_fin hx hz with ⟨_, e⟩ | ⟨_, _⟩ | ⟨_, _⟩
      · exact e
      · grind
      · grind
    have HA := Lib.hid (show absw x = Op.negFloat .f64 x by unfold absw; rw [if_pos hn]; rfl)
    clear hx hz h0 hn
    go_enter Try.func6, Try.ntmps6
    go_wp2
    go_ret
    exact ⟨by rw [HA.out]; rfl, rfl⟩
  · have o1 : (FloatKind.f64.format.order x 0 == some .lt) = false := by
      have := lt_iff hx hz
      rw [h0] at this
      exact this.trans (by simpa using hn)
    have HA := Lib.hid (show absw x = x by unfold absw; rw [if_neg hn])
    clear hx hz h0 hn
    go_enter Try.func6, Try.ntmps6
    go_wp2
    go_ret
    exact ⟨by rw [HA.out]; rfl, rfl⟩

end Go.Proofs.Ytimjcecbkkhdfaa.F64
