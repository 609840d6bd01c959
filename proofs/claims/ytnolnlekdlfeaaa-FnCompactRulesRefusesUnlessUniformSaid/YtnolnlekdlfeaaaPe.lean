/- FnCompactRulesRefusesUnlessUniform: the plain law; tables. -/
import Derived.Test.YtnolnlekdlfeaaaPd
import Derived.Test.YtnolnlekdlfeaaaCy
import Derived.Test.YtnolnlekdlfeaaaCn
namespace Go.Proofs.Ytnolnlekdlfeaaa.ZT
open Go.RowKit Go.Proofs.Ytnolnlekdlfeaaa.TB
set_option linter.unusedVariables false
/-- The corners that the law lays. -/
def CSf (p v : Nat → Bool) (st x : Nat → Int) (n : Nat) : Nat → Cn := fun i =>
  if p i = true then ⟨tS (st i % 3) (v i), kS (st i % 3), tS (st i % 3) (v i), kS (st i % 3), uS (st i % 3) (v i), st i % 3, x i % n, false⟩ else C0
def gd (v : Nat → Bool) (st : Nat → Int) (i : Nat) : Bool := (st i % 3 == st 0 % 3) && !((st 0 % 3 == 1) && (v i != v 0))
def okk (p v : Nat → Bool) (st : Nat → Int) : Nat → Bool
  | 0 => p 0 && (p 1 && (p 2 && p 3))
  | j + 1 => okk p v st j && gd v st (j + 1)
def okF (p v : Nat → Bool) (st : Nat → Int) : Bool := okk p v st 3 && !(st 0 % 3 == 2)
theorem kS_ne (s : Int) : (kS s == 0) = false := by
  unfold kS
  split
  · rfl
  · split <;> rfl
theorem safe_gd (s s0 : Int) (a b : Bool) (h0 : 0 ≤ s) (h1 : s < 3) : safe (uS s a) s (uS s0 b) s0 = (((s == s0) && !((s0 == 1) && (a != b))) && !(s0 == 2)) := by
  by_cases e : s = s0
  · subst e
    rcases (by omega : s = 0 ∨ s = 1 ∨ s = 2) with rfl | rfl | rfl <;> cases a <;> cases b <;> decide +kernel
  · have e1 : (s == s0) = false := by rw [beq_eq_false_iff_ne]; exact e
    unfold safe
    rw [e1]; rfl
theorem okF_eq (p v : Nat → Bool) (st x : Nat → Int) (n : Nat) : okF p v st = fires (CSf p v st x n) := by
  have hb : ∀ i, 0 ≤ st i % 3 ∧ st i % 3 < 3 := fun i => by omega
  have hk : ∀ i, ((CSf p v st x n i).k == 0) = !(p i) := fun i => by
    unfold CSf
    cases p i
    · rfl
    · exact kS_ne _
  have hs : ∀ i, p i = true → p 0 = true → safe (CSf p v st x n i).u (CSf p v st x n i).st (CSf p v st x n 0).u (CSf p v st x n 0).st = (gd v st i && !(st 0 % 3 == 2)) := fun i hi h0 => by
    have h1 : CSf p v st x n i = ⟨tS (st i % 3) (v i), kS (st i % 3), tS (st i % 3) (v i), kS (st i % 3), uS (st i % 3) (v i), st i % 3, x i % n, false⟩ := if_pos hi
    have h2 : CSf p v st x n 0 = ⟨tS (st 0 % 3) (v 0), kS (st 0 % 3), tS (st 0 % 3) (v 0), kS (st 0 % 3), uS (st 0 % 3) (v 0), st 0 % 3, x 0 % n, false⟩ := if_pos h0
    rw [h1, h2]
    exact safe_gd _ _ _ _ (hb i).1 (hb i).2
  unfold fires
  rw [hk 0, hk 1, hk 2, hk 3]
  unfold okF okk okk okk okk
  cases h0 : p 0
  · rfl
  · cases h1 : p 1
    · rfl
    · cases h2 : p 2
      · rfl
      · cases h3 : p 3
        · rfl
        · rw [hs 1 h1 h0, hs 2 h2 h0, hs 3 h3 h0]
          generalize gd v st (0 + 1) = a
          generalize gd v st (1 + 1) = b
          generalize gd v st (2 + 1) = c
          generalize (st 0 % 3 == 2) = d
          cases a <;> cases b <;> cases c <;> cases d <;> rfl
theorem fires_all {p v : Nat → Bool} {st x : Nat → Int} {n : Nat} (h : fires (CSf p v st x n) = true) : ∀ i, i < 4 → p i = true ∧ (CSf p v st x n i).k = kS (st 0 % 3) ∧ (CSf p v st x n i).t = tS (st 0 % 3) (v 0) ∧ (CSf p v st x n i).r = x i % n := by
  rw [← okF_eq] at h
  unfold okF okk okk okk okk at h
  simp only [Bool.and_eq_true, Bool.not_eq_true'] at h
  obtain ⟨⟨⟨⟨⟨h0, h1, h2, h3⟩, g1⟩, g2⟩, g3⟩, hs⟩ := h
  have key : ∀ i, p i = true → gd v st i = true → p i = true ∧ (CSf p v st x n i).k = kS (st 0 % 3) ∧ (CSf p v st x n i).t = tS (st 0 % 3) (v 0) ∧ (CSf p v st x n i).r = x i % n := fun i hp hg => by
    have e : CSf p v st x n i = ⟨tS (st i % 3) (v i), kS (st i % 3), tS (st i % 3) (v i), kS (st i % 3), uS (st i % 3) (v i), st i % 3, x i % n, false⟩ := if_pos hp
    rw [e]
    unfold gd at hg
    simp only [Bool.and_eq_true, Bool.not_eq_true', beq_iff_eq] at hg
    obtain ⟨e1, e2⟩ := hg
    refine ⟨hp, by rw [e1], ?_, rfl⟩
    show tS (st i % 3) (v i) = tS (st 0 % 3) (v 0)
    rw [e1]
    unfold tS
    by_cases q : st 0 % 3 = 1
    · rw [q] at e2 ⊢
      have : v i = v 0 := by simpa using e2
      rw [this]
    · by_cases q0 : st 0 % 3 = 0
      · rw [if_pos q0, if_pos q0]
      · rw [if_neg q0, if_neg q, if_neg q0, if_neg q]
  have g0 : gd v st 0 = true := by unfold gd; simp
  intro i hi
  rcases fourI hi with rfl | rfl | rfl | rfl
  · exact key 0 h0 g0
  · exact key 1 h1 g1
  · exact key 2 h2 g2
  · exact key 3 h3 g3
theorem cm_one {K : Nat → Int} {T : Nat → ByteArray} {k : Int} {t : ByteArray} (hk : ∀ i, i < 4 → K i = k) (ht : ∀ i, i < 4 → T i = t) : cm K T = 1 := by
  unfold cm
  rw [hk 0 (by omega), hk 1 (by omega), hk 2 (by omega), hk 3 (by omega), ht 0 (by omega), ht 1 (by omega), ht 2 (by omega), ht 3 (by omega), eqT_refl]
  rfl
theorem rF_rc {W : World} {gr n : Nat} {D : Nat → Nat} {z : Nat → Int} (h : Tab W gr 62 2 n (rF D z n)) : Tab W gr 62 2 n (rc (fun i => some (D i)) z) :=
  h.ext fun i j hi _ => by
    unfold rF rc
    rw [if_pos hi]
    rfl
/-- The corners as far as they are laid. -/
def kF (S : Nat → Cn) (k : Nat) : Nat → Nat → Value := fun i j => if i < k then (cl (S i))[j]?.getD undef else (cl C0)[j]?.getD undef
theorem kF_step {W : World} {g k : Nat} {S : Nat → Cn} (h : Tab W g 47 18 4 (kF S k)) (hk : k < 4) : Tab (W.setCells g (k * 18) (cl (S k))) g 47 18 4 (kF S (k + 1)) := by
  refine (h.row hk (cl (S k)) (cl_len _)).ext fun i j hi hj => ?_
  unfold kF
  by_cases e : i = k
  · subst e
    rw [if_pos rfl, if_pos (by omega)]
  · rw [if_neg e]
    by_cases e2 : i < k
    · rw [if_pos e2, if_pos (by omega)]
    · rw [if_neg e2, if_neg (by omega)]
theorem kF_range {W : World} {g k : Nat} {S : Nat → Cn} (h : Tab W g 47 18 4 (kF S 4)) (hk : k < 4) : W.rangeAt g (k * 18) (cl (S k)) :=
  h.range hk (cl (S k)) (cl_len _) fun j hj => by
    unfold kF
    rw [if_pos hk, List.getElem?_eq_getElem (by rw [cl_len]; exact hj)]
    rfl
def iF (x : Nat → Int) (n k : Nat) : Nat → Nat → Value := fun i _ => .int .i64 (if i < k then x i % n else 0)
theorem iF_step {W : World} {g n k : Nat} {x : Nat → Int} (h : Tab W g 33 1 4 (iF x n k)) (hk : k < 4) : Tab (W.setCell ⟨g, k, none⟩ (.int .i64 (x k % n))) g 33 1 4 (iF x n (k + 1)) := by
  have h1 := h.set hk (j := 0) (by omega) (.int .i64 (x k % n))
  rw [Nat.mul_one, Nat.add_zero] at h1
  refine h1.ext fun i j hi hj => ?_
  unfold upd iF
  by_cases e : i = k
  · subst e
    rw [if_pos ⟨rfl, by omega⟩, if_pos (by omega)]
  · rw [if_neg (fun h => e h.1)]
    by_cases e2 : i < k
    · rw [if_pos e2, if_pos (by omega)]
    · rw [if_neg e2, if_neg (by omega)]
theorem i1 {W : World} {g t n k : Nat} {f : Nat → Nat → Value} (h : Tab W g t 1 n f) (hk : k < n) : W.cell? ⟨g, k, none⟩ = some (f k 0) := by
  have := h.cell hk (j := 0) (by omega)
  simpa using this
end Go.Proofs.Ytnolnlekdlfeaaa.ZT
