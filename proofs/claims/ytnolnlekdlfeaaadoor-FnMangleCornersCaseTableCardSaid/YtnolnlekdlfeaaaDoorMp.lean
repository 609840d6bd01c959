/- FnMangleCornersCaseTable: the plain part: tokens of codes and codes. -/
import Derived.Test.YtnolnlekdlfeaaaDoorMl
namespace Go.Proofs.YtnolnlekdlfeaaaDoor.ZT
open Go.RowKit Go.Proofs.YtnolnlekdlfeaaaDoor.TB
set_option linter.unusedVariables false
theorem eqT_tab : ∀ a b : Fin 5, eqT (kq a.val) (kq b.val) (tq a.val) (tq b.val) = (a.val == b.val) := by decide +kernel
theorem eqT_q {a b : Nat} (ha : a < 5) (hb : b < 5) : eqT (kq a) (kq b) (tq a) (tq b) = (a == b) := eqT_tab ⟨a, ha⟩ ⟨b, hb⟩
/-- As many codes as tokens are needed. -/
theorem cm_mn (q : Nat → Nat) (y : Nat → Int) (hq : ∀ i, i < 4 → q i < 5) (hy : ∀ i, i < 4 → y i = (q i : Int)) : cm (fun i => kq (q i)) (fun i => tq (q i)) = mn y := by
  have e : ∀ i j, i < 4 → j < 4 → eqT (kq (q i)) (kq (q j)) (tq (q i)) (tq (q j)) = (y i == y j) := fun i j hi hj => by
    rw [eqT_q (hq i hi) (hq j hj), hy i hi, hy j hj, Bool.eq_iff_iff, beq_iff_eq, beq_iff_eq]
    omega
  unfold cm mn m4
  simp only [e 3 1 (by omega) (by omega), e 2 0 (by omega) (by omega), e 1 0 (by omega) (by omega)]
  have s1 : ∀ i, i < 4 → sel 1 i = 0 := fun i hi => by
    rcases (by omega : i = 0 ∨ i = 1 ∨ i = 2 ∨ i = 3) with rfl | rfl | rfl | rfl <;> rfl
  rw [show sel 2 0 = 0 from rfl, show sel 2 1 = 1 from rfl, show sel 2 2 = 0 from rfl, show sel 2 3 = 1 from rfl, show sel 3 0 = 0 from rfl, show sel 3 1 = 1 from rfl, show sel 3 2 = 2 from rfl, show sel 3 3 = 1 from rfl, s1 0 (by omega), s1 1 (by omega), s1 2 (by omega), s1 3 (by omega)]
  generalize y 0 = a
  generalize y 1 = b
  generalize y 2 = c
  generalize y 3 = d
  simp only [Bool.and_eq_true, beq_iff_eq]
  by_cases h1 : d = b
  · subst h1
    by_cases h2 : c = a
    · subst h2
      by_cases h3 : d = c
      · subst h3; simp
      · have h3' : ¬ c = d := fun h => h3 h.symm
        simp [h3, h3']
    · have h2' : ¬ a = c := fun h => h2 h.symm
      simp [h2, h2']
  · have h1' : ¬ b = d := fun h => h1 h.symm
    simp [h1, h1']
    repeat' split
    all_goals omega
end Go.Proofs.YtnolnlekdlfeaaaDoor.ZT
