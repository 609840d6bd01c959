/- The fold by hand that keeps all other bytes: which texts it sends to a word of ASCII letters. Of no program. -/
import Derived.Test.YtdlaponmnepciaaDoorLow
namespace Go.Proofs.YtdlaponmnepciaaDoor.LO
open Go.Lib
def keepM : Nat → List UInt8 → List UInt8
  | 0, _ => []
  | _ + 1, [] => []
  | n + 1, b :: l =>
    if 65 ≤ b.toNat ∧ b.toNat ≤ 90 then lowerB b :: keepM n l
    else if b = 196 ∧ l.head? = some 176 then 105 :: keepM n l.tail
    else if b = 226 ∧ l.head? = some 132 ∧ l.tail.head? = some 170 then 107 :: keepM n l.tail.tail
    else b :: keepM n l
theorem keepM_fuel : ∀ (n m : Nat) (l : List UInt8), l.length ≤ n → l.length ≤ m → keepM n l = keepM m l := by
  intro n
  induction n with
  | zero =>
    intro m l h1 h2
    have : l = [] := List.eq_nil_of_length_eq_zero (by omega)
    subst this
    cases m <;> rfl
  | succ n ih =>
    intro m l h1 h2
    cases l with
    | nil => cases m <;> rfl
    | cons b l =>
      simp only [List.length_cons] at h1 h2
      obtain ⟨m', rfl⟩ : ∃ m', m = m' + 1 := ⟨m - 1, by omega⟩
      have t1 : l.tail.length ≤ l.length := by simp
      have t2 : l.tail.tail.length ≤ l.length := by simp; omega
      simp only [keepM]
      rw [ih m' l (by omega) (by omega), ih m' l.tail (by omega) (by omega), ih m' l.tail.tail (by omega) (by omega)]
def FK (l : List UInt8) : List UInt8 := keepM l.length l
theorem FK_nil : FK [] = [] := rfl
theorem FK_cons (b : UInt8) (l : List UInt8) : FK (b :: l) = if 65 ≤ b.toNat ∧ b.toNat ≤ 90 then lowerB b :: FK l
    else if b = 196 ∧ l.head? = some 176 then 105 :: FK l.tail
    else if b = 226 ∧ l.head? = some 132 ∧ l.tail.head? = some 170 then 107 :: FK l.tail.tail
    else b :: FK l := by
  have t1 : l.tail.length ≤ l.length := by simp
  have t2 : l.tail.tail.length ≤ l.length := by simp; omega
  unfold FK
  rw [List.length_cons]
  simp only [keepM]
  rw [keepM_fuel l.length l.tail.length l.tail (by omega) (by omega), keepM_fuel l.length l.tail.tail.length l.tail.tail (by omega) (by omega)]
theorem lowerB_stays (b : UInt8) (h : ¬ (65 ≤ b.toNat ∧ b.toNat ≤ 90)) : lowerB b = b := by
  unfold lowerB isUpperB
  rw [if_neg]
  simp only [Bool.and_eq_true, decide_eq_true_eq]
  intro hh
  exact h ⟨UInt8.le_iff_toNat_le.1 hh.1, UInt8.le_iff_toNat_le.1 hh.2⟩
theorem head_of {l : List UInt8} {c : UInt8} (h : l.head? = some c) : l = c :: l.tail := by
  cases l with
  | nil => cases h
  | cons a l => simp at h; subst h; rfl
theorem FK_word : ∀ (w : List UInt8), (∀ c ∈ w, c.toNat < 128) → ∀ l, FK l = w ↔ toLowerD l = w := by
  intro w
  induction w with
  | nil =>
    intro _ l
    rw [lowD_eq_nil]
    constructor
    · intro h
      cases l with
      | nil => rfl
      | cons b l =>
        rw [FK_cons] at h
        split at h
        · cases h
        · split at h
          · cases h
          · split at h <;> cases h
    · rintro rfl; rfl
  | cons c t ih =>
    intro hw l
    have hc := hw c (List.mem_cons_self ..)
    have ih := ih (fun x hx => hw x (List.mem_cons_of_mem _ hx))
    rw [lowD_cons l c t hc]
    constructor
    · intro h
      cases l with
      | nil => cases h
      | cons b l =>
        rw [FK_cons] at h
        split at h
        · rename_i hu
          simp only [List.cons.injEq] at h
          exact .inl ⟨b, l, rfl, by omega, h.1, (ih l).1 h.2⟩
        · rename_i hu
          split at h
          · rename_i hi
            simp only [List.cons.injEq] at h
            refine .inr (.inl ⟨h.1.symm, l.tail, ?_, (ih _).1 h.2⟩)
            rw [hi.1, ← head_of hi.2]
          · split at h
            · rename_i hk
              simp only [List.cons.injEq] at h
              refine .inr (.inr ⟨h.1.symm, l.tail.tail, ?_, (ih _).1 h.2⟩)
              rw [hk.1, ← head_of hk.2.2, ← head_of hk.2.1]
            · simp only [List.cons.injEq] at h
              exact .inl ⟨b, l, rfl, by rw [h.1]; exact hc, by rw [lowerB_stays b hu]; exact h.1, (ih l).1 h.2⟩
    · rintro (⟨b, l', rfl, hb, rfl, h2⟩ | ⟨rfl, l', rfl, h2⟩ | ⟨rfl, l', rfl, h2⟩)
      · rw [FK_cons]
        have hF := (ih l').2 h2
        by_cases hu : 65 ≤ b.toNat ∧ b.toNat ≤ 90
        · rw [if_pos hu, hF]
        · rw [if_neg hu, if_neg (fun h => by rw [h.1] at hb; exact absurd hb (by decide)), if_neg (fun h => by rw [h.1] at hb; exact absurd hb (by decide)), lowerB_stays b hu, hF]
      · rw [FK_cons, if_neg (by decide), if_pos ⟨rfl, rfl⟩, List.tail_cons, (ih l').2 h2]
      · rw [FK_cons, if_neg (by decide), if_neg (fun h => absurd h.1 (by decide)), if_pos ⟨rfl, rfl, rfl⟩, List.tail_cons, List.tail_cons, (ih l').2 h2]
theorem FK_words (ws : List (List UInt8)) (hw : ∀ w ∈ ws, ∀ c ∈ w, c.toNat < 128) (l : List UInt8) : decide (FK l ∈ ws) = decide (toLowerD l ∈ ws) := by
  by_cases h : toLowerD l ∈ ws
  · have := (FK_word (toLowerD l) (hw _ h) l).2 rfl
    rw [this]
  · have : ¬ FK l ∈ ws := fun hf => h (by have := (FK_word (FK l) (hw _ hf) l).1 rfl; rw [this]; exact hf)
    rw [decide_eq_false h, decide_eq_false this]
end Go.Proofs.YtdlaponmnepciaaDoor.LO
