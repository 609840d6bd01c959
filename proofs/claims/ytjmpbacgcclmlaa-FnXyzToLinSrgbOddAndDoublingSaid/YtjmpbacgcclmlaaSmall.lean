/- The verifier's small helpers: zzIn, zzAbs, zzClose. -/
import Derived.Test.YtjmpbacgcclmlaaRow
namespace Go.Proofs.Ytjmpbacgcclmlaa.F64
open Go.RowKit Go.Proofs.Ytjmpbacgcclmlaa.FL
theorem negf (b : Nat) : Op.negFloat .f64 b = b ^^^ 2 ^ 63 := rfl

theorem zzIn (x lo hi : Nat) (w : World) : Calls Try.prog 5 #[.float .f64 x, .float .f64 lo, .float .f64 hi] w
    fun e w' => e = .returned (.bool ((Ieee.double.order x lo == some .gt || Ieee.double.order x lo == some .eq) && (Ieee.double.order x hi == some .lt || Ieee.double.order x hi == some .eq))) ∧ w = w' := by
  cases h1 : (Ieee.double.order x lo == some .gt || Ieee.double.order x lo == some .eq)
  · have h1' : (FloatKind.f64.format.order x lo == some .gt || FloatKind.f64.format.order x lo == some .eq) = false := h1
    go_enter Try.func5, Try.ntmps5
    go_wp2
    go_ret
    exact ⟨rfl, rfl⟩
  · have h1' : (FloatKind.f64.format.order x lo == some .gt || FloatKind.f64.format.order x lo == some .eq) = true := h1
    go_enter Try.func5, Try.ntmps5
    go_wp2
    go_ret
    exact ⟨rfl, rfl⟩

theorem zzClose (a b tol : Nat) (w : World) (h : ok .sub a b) (hd : FL.Fin (fo .sub a b)) (ht : FL.Fin tol) (h1 : rv (fo .sub a b) ≤ rv tol) (h2 : - rv (fo .sub a b) ≤ rv tol) :
    Calls Try.prog 9 #[.float .f64 a, .float .f64 b, .float .f64 tol] w fun e w' => e = .returned (.bool true) ∧ w = w' := by
  have hr := fun (t : TypeId) (w : World) => run_float_arith (P := Try.prog) w .sub t .f64 a b _ (fo_some h)
  generalize fo .sub a b = d at *
  have hz : FL.Fin 0 := by unfold FL.Fin; omega
  have h0 : rv 0 = 0 := rv_word_zero false
  by_cases hn : rv d < 0
  · have o1 : FloatKind.f64.format.order d 0 = some .lt := by
      rcases order_fin hd hz with ⟨_, e⟩ | ⟨_, _⟩ | ⟨_, _⟩
      · exact e
      · grind
      · grind
    have o2 : (FloatKind.f64.format.order (Op.negFloat .f64 d) tol == some .lt || FloatKind.f64.format.order (Op.negFloat .f64 d) tol == some .eq) = true := by
      have := le_iff (neg_fin hd) ht
      rw [neg_rv hd] at this
      rw [negf]; exact this.trans (by simpa using h2)
    clear h hd ht h1 h2 hz h0 hn
    go_enter Try.func9, Try.ntmps9
    go_wp2
    go_ret
    exact ⟨rfl, rfl⟩
  · have o1 : (FloatKind.f64.format.order d 0 == some .lt) = false := by
      have := lt_iff hd hz
      rw [h0] at this
      exact this.trans (by simpa using hn)
    have o2 : (FloatKind.f64.format.order d tol == some .lt || FloatKind.f64.format.order d tol == some .eq) = true := by
      have := le_iff hd ht
      exact this.trans (by simpa using h1)
    clear h hd ht h1 h2 hz h0 hn
    go_enter Try.func9, Try.ntmps9
    go_wp2
    go_ret
    exact ⟨rfl, rfl⟩

def absw (x : Nat) : Nat := if rv x < 0 then x ^^^ 2 ^ 63 else x
theorem absw_fin {x : Nat} (h : FL.Fin x) : FL.Fin (absw x) := by unfold absw; split; exact neg_fin h; exact h
theorem absw_rv {x : Nat} (h : FL.Fin x) : 0 ≤ rv (absw x) ∧ rv x ≤ rv (absw x) ∧ - rv x ≤ rv (absw x) ∧ (rv (absw x) = rv x ∨ rv (absw x) = - rv x) := by
  unfold absw; split
  · rw [neg_rv h]; grind
  · grind

theorem zzAbs (x : Nat) (w : World) (hx : FL.Fin x) :
    Calls Try.prog 8 #[.float .f64 x] w fun e w' => e = .returned (.float .f64 (absw x)) ∧ w = w' := by
  have hz : FL.Fin 0 := by unfold FL.Fin; omega
  have h0 : rv 0 = 0 := rv_word_zero false
  by_cases hn : rv x < 0
  · have o1 : FloatKind.f64.format.order x 0 = some .lt := by
      rcases order_fin hx hz with ⟨_, e⟩ | ⟨_, _⟩ | ⟨_, _⟩
      · exact e
      · grind
      · grind
    have HA := Lib.hid (show absw x = Op.negFloat .f64 x by unfold absw; rw [if_pos hn]; rfl)
    clear hx hz h0 hn
    go_enter Try.func8, Try.ntmps8
    go_wp2
    go_ret
    exact ⟨by rw [HA.out]; rfl, rfl⟩
  · have o1 : (FloatKind.f64.format.order x 0 == some .lt) = false := by
      have := lt_iff hx hz
      rw [h0] at this
      exact this.trans (by simpa using hn)
    have HA := Lib.hid (show absw x = x by unfold absw; rw [if_neg hn])
    clear hx hz h0 hn
    go_enter Try.func8, Try.ntmps8
    go_wp2
    go_ret
    exact ⟨by rw [HA.out]; rfl, rfl⟩
end Go.Proofs.Ytjmpbacgcclmlaa.F64
