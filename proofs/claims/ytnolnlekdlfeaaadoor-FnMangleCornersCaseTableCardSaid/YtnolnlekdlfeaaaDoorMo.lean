/- FnMangleCornersCaseTable: the law's accept. -/
import Derived.Test.YtnolnlekdlfeaaaDoorMb
namespace Go.Proofs.YtnolnlekdlfeaaaDoor.ZT
open Go.RowKit Go.Proofs.YtnolnlekdlfeaaaDoor.TB
set_option linter.unusedVariables false
/-- The law's own count of slashes behind k codes. -/
def SL (n k : Nat) (Q : Nat → Nat) (s p : Nat) : Prop :=
  (s = 0 ∧ p = n ∧ ∀ i, i < k → Q i ≠ 7) ∨ (s = 1 ∧ p < k ∧ Q p = 7 ∧ ∀ i, i < k → i ≠ p → Q i ≠ 7) ∨ (2 ≤ s ∧ s ≤ k ∧ p ≤ n ∧ two7 n Q)
theorem SL.zero (n : Nat) (Q : Nat → Nat) : SL n 0 Q 0 n := .inl ⟨rfl, rfl, fun i h => absurd h (by omega)⟩
theorem SL.other {n k : Nat} {Q : Nat → Nat} {s p : Nat} (h : SL n k Q s p) (hq : Q k ≠ 7) : SL n (k + 1) Q s p := by
  rcases h with ⟨h1, h2, h3⟩ | ⟨h1, h2, h3, h4⟩ | ⟨h1, h2, h3, h4⟩
  · refine .inl ⟨h1, h2, fun i hi => ?_⟩
    rcases Nat.lt_succ_iff_lt_or_eq.1 hi with h | rfl
    · exact h3 i h
    · exact hq
  · refine .inr (.inl ⟨h1, by omega, h3, fun i hi hne => ?_⟩)
    rcases Nat.lt_succ_iff_lt_or_eq.1 hi with h | rfl
    · exact h4 i h hne
    · exact hq
  · exact .inr (.inr ⟨h1, by omega, h3, h4⟩)
theorem SL.first {n k : Nat} {Q : Nat → Nat} {s p : Nat} (h : SL n k Q s p) (hs : s = 0) (hq : Q k = 7) : SL n (k + 1) Q (s + 1) k := by
  rcases h with ⟨h1, h2, h3⟩ | ⟨h1, h2, h3, h4⟩ | ⟨h1, h2, h3, h4⟩
  · exact .inr (.inl ⟨by omega, by omega, hq, fun i hi hne => h3 i (by omega)⟩)
  · omega
  · omega
theorem SL.next {n k : Nat} {Q : Nat → Nat} {s p : Nat} (h : SL n k Q s p) (hk : k < n) (hs : s ≠ 0) (hq : Q k = 7) : SL n (k + 1) Q (s + 1) p := by
  rcases h with ⟨h1, h2, h3⟩ | ⟨h1, h2, h3, h4⟩ | ⟨h1, h2, h3, h4⟩
  · omega
  · exact .inr (.inr ⟨by omega, by omega, by omega, ⟨p, k, h2, hk, h3, hq⟩⟩)
  · exact .inr (.inr ⟨by omega, by omega, h3, h4⟩)
theorem SL.le {n k : Nat} {Q : Nat → Nat} {s p : Nat} (h : SL n k Q s p) (hk : k ≤ n) : s ≤ k ∧ p ≤ n := by
  rcases h with ⟨h1, h2, h3⟩ | ⟨h1, h2, h3, h4⟩ | ⟨h1, h2, h3, h4⟩ <;> omega
/-- No code 5 or 6 among the first k. -/
def nb (Q : Nat → Nat) : Nat → Bool
  | 0 => true
  | k + 1 => nb Q k && !(Q k == 5 || Q k == 6)
theorem nb_iff (Q : Nat → Nat) : ∀ k, nb Q k = true ↔ ∀ i, i < k → Q i ≠ 5 ∧ Q i ≠ 6
  | 0 => ⟨fun _ i h => absurd h (by omega), fun _ => rfl⟩
  | k + 1 => by
    rw [nb, Bool.and_eq_true, nb_iff Q k]
    constructor
    · rintro ⟨h1, h2⟩ i hi
      rcases Nat.lt_succ_iff_lt_or_eq.1 hi with h | rfl
      · exact h1 i h
      · simpa using h2
    · intro h
      exact ⟨fun i hi => h i (by omega), by simpa using h k (by omega)⟩
theorem SL.yes {n : Nat} {Q : Nat → Nat} {s p af : Nat} (h : SL n n Q s p) (haf : af = if s = 1 then n - p - 1 else 0)
    (ha : (((decide (s ≤ 1) && !(decide (p < 1) || decide (4 < p))) && !(decide (s = 1) && (decide (af < 1) || decide (4 < af)))) && nb Q n) = true) : Acc n Q p (if s = 1 then p + 1 else n) := by
  simp only [Bool.and_eq_true, Bool.not_eq_true', Bool.or_eq_false_iff, Bool.and_eq_false_iff, decide_eq_true_eq, decide_eq_false_iff_not, nb_iff] at ha
  obtain ⟨⟨⟨h1, h2, h3⟩, h4⟩, h5⟩ := ha
  rcases h with ⟨e1, e2, e3⟩ | ⟨e1, e2, e3, e4⟩ | ⟨e1, _⟩
  · have hne : ¬ s = 1 := by omega
    rw [if_neg hne]
    exact ⟨.inl ⟨e2, rfl, e3⟩, ⟨by omega, by omega⟩, fun h => absurd h (by omega), h5⟩
  · rw [if_pos e1] at haf ⊢
    exact ⟨.inr ⟨e2, rfl, e3, e4⟩, ⟨by omega, by omega⟩, fun _ => by omega, h5⟩
  · omega
theorem SL.no {n : Nat} {Q : Nat → Nat} {s p af : Nat} (h : SL n n Q s p) (haf : af = if s = 1 then n - p - 1 else 0)
    (ha : (((decide (s ≤ 1) && !(decide (p < 1) || decide (4 < p))) && !(decide (s = 1) && (decide (af < 1) || decide (4 < af)))) && nb Q n) = false) : ¬ ∃ bs es, Acc n Q bs es := by
  rintro ⟨bs, es, hs, ⟨c1, c2⟩, c3, c4⟩
  have hnb : nb Q n = true := (nb_iff Q n).2 c4
  rw [hnb, Bool.and_true] at ha
  have sp : s ≤ 1 ∧ p = bs ∧ (s = 1 → af = n - es ∧ bs < es) := by
    rcases h with ⟨e1, e2, e3⟩ | ⟨e1, e2, e3, e4⟩ | ⟨_, _, _, e4⟩
    · obtain ⟨a, b⟩ := hs.uniq (.inl ⟨e2, rfl, e3⟩ : SP n n Q p n)
      exact ⟨by omega, a.symm, fun h => by omega⟩
    · obtain ⟨a, b⟩ := hs.uniq (.inr ⟨e2, rfl, e3, e4⟩ : SP n n Q p (p + 1))
      rw [if_pos e1] at haf
      exact ⟨by omega, a.symm, fun h => by omega⟩
    · exact absurd e4 hs.not_two
  obtain ⟨s1, s2, s3⟩ := sp
  subst s2
  have x1 : decide (s ≤ 1) = true := decide_eq_true s1
  have x2 : decide (p < 1) = false := decide_eq_false (by omega)
  have x3 : decide (4 < p) = false := decide_eq_false (by omega)
  rw [x1, x2, x3] at ha
  by_cases hs1 : s = 1
  · obtain ⟨a, b⟩ := s3 hs1
    have := c3 b
    have x4 : decide (af < 1) = false := decide_eq_false (by omega)
    have x5 : decide (4 < af) = false := decide_eq_false (by omega)
    rw [x4, x5] at ha
    simp at ha
  · rw [decide_eq_false hs1] at ha
    simp at ha
end Go.Proofs.YtnolnlekdlfeaaaDoor.ZT
