/- The plain part of FnCompactThenExpandGivesTheSameFourSides. -/
import Derived.Test.YtceafaddhbabhaaGd
namespace Go.Proofs.Ytceafaddhbabhaa.ZT
open Go.RowKit Go.Proofs.Ytceafaddhbabhaa.TB
set_option linter.unusedVariables false
theorem eqT_self (k : Int) (t : ByteArray) : eqT k k t t = true := by simp [eqT]
theorem cm_ge (K : Nat → Int) (T : Nat → ByteArray) : 1 ≤ cm K T ∧ cm K T ≤ 4 := by
  unfold cm; repeat' split
  all_goals omega
theorem cm_le (n : Nat) (h1 : 1 ≤ n) (h4 : n ≤ 4) (K : Nat → Int) (T : Nat → ByteArray) : cm (fun i => K (sel n i)) (fun i => T (sel n i)) ≤ n := by
  obtain rfl | rfl | rfl | rfl : n = 1 ∨ n = 2 ∨ n = 3 ∨ n = 4 := by omega
  · simp [cm, sel, eqT_self]
  · simp [cm, sel, eqT_self]; split <;> omega
  · simp [cm, sel, eqT_self]; repeat' split
    all_goals omega
  · exact (cm_ge _ _).2
theorem eqT_iff {k k' : Int} {t t' : ByteArray} (h : eqT k k' t t' = true) : k' = k ∧ (t'.toList == t.toList) = true := by
  simp only [eqT, Bool.and_eq_true, beq_iff_eq] at h
  exact ⟨h.1.symm, by rw [h.2]; simp⟩
/-- Expanding what compacting left gives the same kinds and texts. -/
theorem cm_back (K : Nat → Int) (T : Nat → ByteArray) (i : Nat) (hi : i < 4) : K (sel (cm K T) i) = K i ∧ ((T (sel (cm K T) i)).toList == (T i).toList) = true := by
  unfold cm
  cases e31 : eqT (K 3) (K 1) (T 3) (T 1)
  · rcases fourI hi with rfl | rfl | rfl | rfl <;> simp [sel]
  · have q31 := eqT_iff e31
    cases e20 : eqT (K 2) (K 0) (T 2) (T 0)
    · rcases fourI hi with rfl | rfl | rfl | rfl <;> simp [sel] <;> simpa using q31
    · have q20 := eqT_iff e20
      cases e10 : eqT (K 1) (K 0) (T 1) (T 0)
      · rcases fourI hi with rfl | rfl | rfl | rfl <;> simp [sel] <;> first | simpa using q20 | simpa using q31
      · have q10 := eqT_iff e10
        simp only [beq_iff_eq] at q10 q20 q31
        rcases fourI hi with rfl | rfl | rfl | rfl <;> simp [sel]
        · exact q10
        · exact q20
        · exact ⟨by rw [q10.1, q31.1], by rw [q10.2, q31.2]⟩
theorem okAll_back {n : Nat} {s : ByteArray} {K : Nat → Int} {T : Nat → ByteArray} (h : okAll n s K T) : okAll (cm (fun i => K (sel n i)) (fun i => T (sel n i))) s (fun i => K (sel n i)) (fun i => T (sel n i)) :=
  ⟨(cm_ge _ _).1, (cm_ge _ _).2, fun i hi => h.2.2 _ (sel_lt h.1 h.2.1)⟩
end Go.Proofs.Ytceafaddhbabhaa.ZT
