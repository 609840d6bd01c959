/- Plain facts on lists of bytes: what parseInteger computes, and that it leaves its own answer as it is. No program in sight. -/
import Derived.WalkKit
import Derived.Lib.IndexBytes
namespace Go.Proofs.Ytcaiehnihgcegaa.PInt

def isDig (c : UInt8) : Bool := 48 ≤ c && c ≤ 57

/-- What parseInteger answers for the bytes 'l'. -/
def pint (l : List UInt8) : List UInt8 × Bool :=
  if l = [] then ([], false)
  else if l.dropWhile (· == 48) = [] then ([48], true)
  else if (l.dropWhile (· == 48)).all isDig then (l.dropWhile (· == 48), true)
  else ([], false)

theorem drop_zeros : ∀ (k : Nat) (l : List UInt8), (∀ j, j < k → l[j]? = some 48) → l[k]? ≠ some 48 →
    l.dropWhile (· == 48) = l.drop k
  | 0, [], _, _ => rfl
  | 0, c :: l, _, h => by
    have : ¬ c = 48 := by intro e; exact h (by simp [e])
    simp [this]
  | k + 1, [], h, _ => by have := h 0 (by omega); simp at this
  | k + 1, c :: l, h, hn => by
    have hc : c = 48 := by simpa using h 0 (by omega)
    subst hc
    simp only [List.dropWhile_cons, beq_self_eq_true, if_true, List.drop_succ_cons]
    exact drop_zeros k l (fun j hj => by simpa using h (j + 1) (by omega)) (by simpa using hn)

theorem pint_nil : pint [] = ([], false) := rfl

theorem pint_zeros (l : List UInt8) (h0 : 0 < l.length) (h : ∀ j, j < l.length → l[j]? = some 48) : pint l = ([48], true) := by
  have hd := drop_zeros l.length l h (by simp)
  have hne : l ≠ [] := by intro e; simp [e] at h0
  simp [pint, hne, hd]

theorem pint_ok (l : List UInt8) (k : Nat) (hk : k < l.length) (h : ∀ j, j < k → l[j]? = some 48) (hn : l[k]? ≠ some 48)
    (hd : ∀ j, k ≤ j → j < l.length → isDig (l.getD j 0) = true) : pint l = (l.drop k, true) := by
  have hz := drop_zeros k l h hn
  have hne : l ≠ [] := by intro e; simp [e] at hk
  have hdn : l.drop k ≠ [] := by intro e; have := congrArg List.length e; simp at this; omega
  have hall : (l.drop k).all isDig = true := by
    rw [List.all_eq_true]; intro c hc
    obtain ⟨j, hj, rfl⟩ := List.getElem_of_mem hc
    simp at hj
    have := hd (k + j) (by omega) (by omega)
    rw [List.getElem_drop]
    simpa [List.getD_eq_getElem?_getD, List.getElem?_eq_getElem (show k + j < l.length by omega)] using this
  simp [pint, hne, hz, hdn, hall]

theorem pint_bad (l : List UInt8) (k j : Nat) (hk : k < l.length) (h : ∀ j, j < k → l[j]? = some 48) (hn : l[k]? ≠ some 48)
    (hj : k ≤ j) (hj2 : j < l.length) (hd : isDig (l.getD j 0) = false) : pint l = ([], false) := by
  have hz := drop_zeros k l h hn
  have hne : l ≠ [] := by intro e; simp [e] at hk
  have hdn : l.drop k ≠ [] := by intro e; have := congrArg List.length e; simp at this; omega
  have hall : ¬ (l.drop k).all isDig = true := by
    rw [List.all_eq_true]; intro hc
    have hm : l[j] ∈ l.drop k := by
      rw [List.mem_iff_getElem]; exact ⟨j - k, by simp; omega, by simp [List.getElem_drop]; congr 1; omega⟩
    have := hc _ hm
    simp [List.getD_eq_getElem?_getD, List.getElem?_eq_getElem hj2, this] at hd
  simp only [pint, if_neg hne, hz, if_neg hdn, if_neg hall]

theorem dropWhile_idem (p : UInt8 → Bool) : ∀ l : List UInt8, (l.dropWhile p).dropWhile p = l.dropWhile p
  | [] => rfl
  | c :: l => by
    by_cases h : p c = true
    · simp [h, dropWhile_idem p l]
    · simp [h]

theorem pint_idem (l : List UInt8) (h : (pint l).2 = true) : pint (pint l).1 = ((pint l).1, true) := by
  unfold pint at h ⊢
  by_cases h1 : l = []
  · simp [h1] at h
  · by_cases h2 : l.dropWhile (· == 48) = []
    · simp only [if_neg h1, if_pos h2]; decide
    · by_cases h3 : (l.dropWhile (· == 48)).all isDig = true
      · simp only [if_neg h1, if_neg h2, if_pos h3, dropWhile_idem]
      · simp [h1, h2, h3] at h

theorem pint_len (l : List UInt8) : (pint l).1.length ≤ l.length + 1 := by
  have hd : (l.dropWhile (· == 48)).length ≤ l.length := (List.dropWhile_suffix _).length_le
  unfold pint
  split
  · simp
  · split
    · simp
    · split
      · simp; omega
      · simp

theorem extract_end (s : ByteArray) (k : Nat) : s.extract k s.size = ⟨(s.data.toList.drop k).toArray⟩ := by
  rw [← Lib.extract_to_end]

end Go.Proofs.Ytcaiehnihgcegaa.PInt
