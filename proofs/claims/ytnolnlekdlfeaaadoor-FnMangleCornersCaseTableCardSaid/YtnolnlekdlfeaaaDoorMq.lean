/- FnMangleCornersCaseTable: the plain part: quads alike. -/
import Derived.Test.YtnolnlekdlfeaaaDoorMp
namespace Go.Proofs.YtnolnlekdlfeaaaDoor.ZT
open Go.RowKit Go.Proofs.YtnolnlekdlfeaaaDoor.TB
set_option linter.unusedVariables false
theorem selt {m i : Nat} (hm : 1 ≤ m) (hi : i < 4) : sel m i < m := by
  unfold sel
  split
  · assumption
  · split <;> omega
theorem m4_all {y : Nat → Int} {k : Nat} (h : m4 y k = true) {i : Nat} (hi : i < 4) : y (sel k i) = y i := by
  unfold m4 at h
  simp only [Bool.and_eq_true, beq_iff_eq] at h
  obtain ⟨h0, h1, h2, h3⟩ := h
  rcases (by omega : i = 0 ∨ i = 1 ∨ i = 2 ∨ i = 3) with rfl | rfl | rfl | rfl <;> assumption
theorem mn_sel (y : Nat → Int) {i : Nat} (hi : i < 4) : y (sel (mn y) i) = y i := by
  unfold mn
  split
  · rename_i h; exact m4_all h hi
  · split
    · rename_i h; exact m4_all h hi
    · split
      · rename_i h; exact m4_all h hi
      · unfold sel; rw [if_pos hi]
theorem mn_congr {y1 y2 : Nat → Int} (h : ∀ i, i < 4 → y1 i = y2 i) : mn y1 = mn y2 := by
  have e : ∀ k, 1 ≤ k → k ≤ 4 → m4 y1 k = m4 y2 k := fun k h1 h4 => by
    unfold m4
    have hs : ∀ i, i < 4 → sel k i < 4 := fun i hi => by have := selt h1 hi; omega
    rw [h _ (hs 0 (by omega)), h _ (hs 1 (by omega)), h _ (hs 2 (by omega)), h _ (hs 3 (by omega)), h 0 (by omega), h 1 (by omega), h 2 (by omega), h 3 (by omega)]
  unfold mn
  rw [e 1 (by omega) (by omega), e 2 (by omega) (by omega), e 3 (by omega) (by omega)]
theorem eqS_same (q1 q2 : Nat → Nat) (y1 y2 : Nat → Int) (h1 : ∀ i, i < 4 → q1 i < 5 ∧ y1 i = (q1 i : Int)) (h2 : ∀ i, i < 4 → q2 i < 5 ∧ y2 i = (q2 i : Int)) :
    eqS (mn y1) (mn y2) (fun i => kq (q1 i)) (fun i => tq (q1 i)) (fun i => kq (q2 i)) (fun i => tq (q2 i)) = same4 y1 y2 := by
  have l1 := mn_le y1
  have l2 := mn_le y2
  rw [Bool.eq_iff_iff]
  unfold eqS same4
  simp only [Bool.and_eq_true, beq_iff_eq, List.all_eq_true, List.mem_range]
  constructor
  · rintro ⟨hm, ha⟩
    have key : ∀ i, i < 4 → y1 i = y2 i := fun i hi => by
      have hs := selt l1.1 hi
      have e1 := mn_sel y1 hi
      have e2 := mn_sel y2 hi
      rw [← hm] at e2
      have e3 := ha _ hs
      rw [eqT_q (h1 _ (by omega)).1 (h2 _ (by omega)).1, beq_iff_eq] at e3
      rw [← e1, ← e2, (h1 _ (by omega)).2, (h2 _ (by omega)).2, e3]
    exact ⟨key 0 (by omega), key 1 (by omega), key 2 (by omega), key 3 (by omega)⟩
  · rintro ⟨e0, e1, e2, e3⟩
    have key : ∀ i, i < 4 → y1 i = y2 i := fun i hi => by
      rcases (by omega : i = 0 ∨ i = 1 ∨ i = 2 ∨ i = 3) with rfl | rfl | rfl | rfl <;> assumption
    refine ⟨mn_congr key, fun i hi => ?_⟩
    have a := h1 i (by omega)
    have b := h2 i (by omega)
    have c := key i (by omega)
    rw [eqT_q a.1 b.1, beq_iff_eq]
    omega
end Go.Proofs.YtnolnlekdlfeaaaDoor.ZT
