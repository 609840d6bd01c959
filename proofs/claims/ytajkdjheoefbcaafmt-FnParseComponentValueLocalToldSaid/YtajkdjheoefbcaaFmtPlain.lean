/- The scanner and the models of n011_198, in plain Lean. -/
namespace Go.Proofs.YtajkdjheoefbcaaFmt.PL
/-- The class that closes a group. -/
def cl (k : Nat) : Option Nat := if k = 5 ∨ k = 6 then some 7 else if k = 8 then some 9 else if k = 10 then some 11 else none
/-- The small machine that looks for a custom property's head. -/
def nx (s c : Nat) : Nat := if s = 0 then (if c = 2 then 1 else if c = 0 then 0 else 3) else if s = 1 then (if c = 3 then 2 else if c = 0 then 1 else 3) else s
def stk (st : List Nat) (c : Nat) : List Nat := match cl c with
  | some x => x :: st
  | none => if (c = 7 ∨ c = 9 ∨ c = 11) ∧ st.head? = some c then st.tail else st
section
variable (k : Nat → Nat) (n : Nat)
def scan : Nat → Nat → List Nat → Nat → Int × Int
  | 0, _, _, _ => (0, -1)
  | f + 1, s, st, i =>
    if i < n then
      if k i = 4 ∧ st = [] then (1, (i : Int))
      else if k i = 10 ∧ st = [] ∧ nx s (k i) ≠ 2 then (2, (i : Int))
      else if k i = 11 ∧ st.head? ≠ some 11 then (0, -1)
      else scan f (nx s (k i)) (stk st (k i)) (i + 1)
    else (0, -1)
def skip : Nat → Nat → Nat → Option Nat
  | 0, _, _ => none
  | f + 1, want, i =>
    if i < n then
      if k i = want then some (i + 1)
      else if k i = 11 then none
      else match cl (k i) with
        | some c => (skip f c (i + 1)).bind (fun e => skip f want e)
        | none => skip f want (i + 1)
    else none
def model (acc : Bool) : Nat → Nat → Int × Int
  | 0, _ => (0, -1)
  | f + 1, i =>
    if i < n then
      if k i = 4 then (1, (i : Int))
      else if k i = 10 ∧ acc = false then (2, (i : Int))
      else if k i = 11 then (0, -1)
      else match cl (k i) with
        | some c => (match skip k n (n + 1) c (i + 1) with
          | none => (0, -1)
          | some e => model acc f e)
        | none => model acc f (i + 1)
    else (0, -1)
def SC (s : Nat) (st : List Nat) (i : Nat) : Int × Int := scan k n (n + 1) s st i
def SK (want i : Nat) : Option Nat := skip k n (n + 1) want i
def MD (acc : Bool) (i : Nat) : Int × Int := model k n acc (n + 1) i
theorem skip_gt : ∀ (f want i e : Nat), skip k n f want i = some e → i < e ∧ e ≤ n := by
  intro f
  induction f with
  | zero => intro want i e h; simp [skip] at h
  | succ f ih =>
    intro want i e h
    rw [skip] at h
    split at h
    · rename_i hi
      split at h
      · simp at h; omega
      · split at h
        · cases h
        · split at h
          · rename_i c _
            cases h1 : skip k n f c (i + 1) with
            | none => rw [h1] at h; cases h
            | some e1 =>
              rw [h1] at h
              have a := ih _ _ _ h1
              have b := ih _ _ _ h
              omega
          · have b := ih _ _ _ h; omega
    · cases h
theorem skip_fuel : ∀ (f f' want i : Nat), n - i < f → n - i < f' → skip k n f want i = skip k n f' want i := by
  intro f
  induction f with
  | zero => intro f' want i h; omega
  | succ f ih =>
    intro f' want i h h'
    obtain ⟨g, rfl⟩ : ∃ g, f' = g + 1 := ⟨f' - 1, by omega⟩
    rw [skip, skip]
    by_cases hi : i < n
    · simp only [hi, if_true]
      split
      · rfl
      · split
        · rfl
        · split
          · rename_i c _
            rw [ih g c (i + 1) (by omega) (by omega)]
            cases h1 : skip k n g c (i + 1) with
            | none => rfl
            | some e1 =>
              have a := skip_gt k n _ _ _ _ h1
              exact ih g want e1 (by omega) (by omega)
          · exact ih g want (i + 1) (by omega) (by omega)
    · simp [hi]
theorem SK_eq (want i : Nat) : SK k n want i = if i < n then (if k i = want then some (i + 1) else if k i = 11 then none else match cl (k i) with
        | some c => (SK k n c (i + 1)).bind (fun e => SK k n want e)
        | none => SK k n want (i + 1)) else none := by
  unfold SK
  by_cases hi : i < n
  · conv => lhs; rw [skip]
    simp only [hi, if_true]
    split
    · rfl
    · split
      · rfl
      · split
        · rename_i c _
          rw [skip_fuel k n n (n + 1) c (i + 1) (by omega) (by omega)]
          cases h1 : skip k n (n + 1) c (i + 1) with
          | none => rfl
          | some e1 =>
            have a := skip_gt k n _ _ _ _ h1
            exact skip_fuel k n n (n + 1) want e1 (by omega) (by omega)
        · exact skip_fuel k n n (n + 1) want (i + 1) (by omega) (by omega)
  · rw [skip]; simp [hi]
theorem SK_gt {want i e : Nat} (h : SK k n want i = some e) : i < e ∧ e ≤ n := skip_gt k n _ _ _ _ h
theorem scan_fuel : ∀ (f f' s : Nat) (st : List Nat) (i : Nat), n - i < f → n - i < f' → scan k n f s st i = scan k n f' s st i := by
  intro f
  induction f with
  | zero => intro f' s st i h; omega
  | succ f ih =>
    intro f' s st i h h'
    obtain ⟨g, rfl⟩ : ∃ g, f' = g + 1 := ⟨f' - 1, by omega⟩
    rw [scan, scan]
    by_cases hi : i < n
    · simp only [hi, if_true]
      rw [ih g _ _ (i + 1) (by omega) (by omega)]
    · simp [hi]
theorem SC_eq (s : Nat) (st : List Nat) (i : Nat) : SC k n s st i = if i < n then (if k i = 4 ∧ st = [] then (1, (i : Int)) else if k i = 10 ∧ st = [] ∧ nx s (k i) ≠ 2 then (2, (i : Int)) else if k i = 11 ∧ st.head? ≠ some 11 then (0, -1) else SC k n (nx s (k i)) (stk st (k i)) (i + 1)) else (0, -1) := by
  unfold SC
  conv => lhs; rw [scan]
  by_cases hi : i < n
  · simp only [hi, if_true]
    rw [scan_fuel k n n (n + 1) _ _ (i + 1) (by omega) (by omega)]
  · simp [hi]
theorem model_fuel (acc : Bool) : ∀ (f f' i : Nat), n - i < f → n - i < f' → model k n acc f i = model k n acc f' i := by
  intro f
  induction f with
  | zero => intro f' i h; omega
  | succ f ih =>
    intro f' i h h'
    obtain ⟨g, rfl⟩ : ∃ g, f' = g + 1 := ⟨f' - 1, by omega⟩
    rw [model, model]
    by_cases hi : i < n
    · simp only [hi, if_true]
      split
      · rfl
      · split
        · rfl
        · split
          · rfl
          · split
            · rename_i c _
              cases h1 : skip k n (n + 1) c (i + 1) with
              | none => rfl
              | some e1 =>
                have a := skip_gt k n _ _ _ _ h1
                exact ih g e1 (by omega) (by omega)
            · exact ih g (i + 1) (by omega) (by omega)
    · simp [hi]
theorem MD_eq (acc : Bool) (i : Nat) : MD k n acc i = if i < n then (if k i = 4 then (1, (i : Int)) else if k i = 10 ∧ acc = false then (2, (i : Int)) else if k i = 11 then (0, -1) else match cl (k i) with
        | some c => (match SK k n c (i + 1) with
          | none => (0, -1)
          | some e => MD k n acc e)
        | none => MD k n acc (i + 1)) else (0, -1) := by
  unfold MD
  conv => lhs; rw [model]
  by_cases hi : i < n
  · simp only [hi, if_true]
    split
    · rfl
    · split
      · rfl
      · split
        · rfl
        · split
          · rename_i c _
            unfold SK
            cases h1 : skip k n (n + 1) c (i + 1) with
            | none => rfl
            | some e1 =>
              have a := skip_gt k n _ _ _ _ h1
              exact model_fuel k n acc n (n + 1) e1 (by omega) (by omega)
          · exact model_fuel k n acc n (n + 1) (i + 1) (by omega) (by omega)
  · simp [hi]
theorem nx_fix {s : Nat} (hs : s = 2 ∨ s = 3) (c : Nat) : nx s c = s := by rcases hs with rfl | rfl <;> simp [nx]
theorem cl_ne {c x : Nat} (h : cl c = some x) : (x = 7 ∨ x = 9 ∨ x = 11) ∧ c ≠ 4 ∧ c ≠ 11 := by
  unfold cl at h
  split at h
  · cases h; omega
  · split at h
    · cases h; omega
    · split at h
      · cases h; omega
      · cases h
/-- Inside a group the scanner does what the recursive descent does. -/
theorem SC_in {s : Nat} (hs : s = 2 ∨ s = 3) : ∀ (m i c : Nat) (st : List Nat), n - i < m → (c = 7 ∨ c = 9 ∨ c = 11) →
    SC k n s (c :: st) i = match SK k n c i with
      | none => (0, -1)
      | some e => SC k n s st e := by
  intro m
  induction m with
  | zero => intro i c st h; omega
  | succ m ih =>
    intro i c st h hc
    rw [SC_eq, SK_eq]
    by_cases hi : i < n
    · rw [if_pos hi, if_pos hi, nx_fix hs]
      by_cases h1 : k i = c
      · have e4 : k i ≠ 4 := by omega
        have e10 : k i ≠ 10 := by omega
        have ecl : cl (k i) = none := by unfold cl; rw [if_neg (by omega), if_neg (by omega), if_neg (by omega)]
        have es : stk (c :: st) (k i) = st := by unfold stk; rw [ecl]; simp [h1]; intro; omega
        have e11 : ¬ (k i = 11 ∧ (c :: st).head? ≠ some 11) := by rintro ⟨a, b⟩; exact b (by simp; omega)
        rw [if_neg (by simp [e4]), if_neg (by simp [e10]), if_neg e11, es, if_pos h1]
      · rw [if_neg (by simp), if_neg (by simp), if_neg h1]
        by_cases h11 : k i = 11
        · have e11 : k i = 11 ∧ (c :: st).head? ≠ some 11 := ⟨h11, by simp; omega⟩
          rw [if_pos e11, if_pos h11]
        · rw [if_neg (by simp [h11]), if_neg h11]
          cases hcl : cl (k i) with
          | none =>
            have es : stk (c :: st) (k i) = c :: st := by
              unfold stk; rw [hcl]; simp; intro _ hh; omega
            rw [es]
            exact ih (i + 1) c st (by omega) hc
          | some x =>
            have es : stk (c :: st) (k i) = x :: c :: st := by unfold stk; rw [hcl]
            rw [es, ih (i + 1) x (c :: st) (by omega) (cl_ne hcl).1]
            dsimp only
            cases h2 : SK k n x (i + 1) with
            | none => rfl
            | some e =>
              have a := SK_gt k n h2
              exact ih e c st (by omega) hc
    · simp [hi]
theorem SC_out {s : Nat} (hs : s = 2 ∨ s = 3) : ∀ (m i : Nat), n - i < m → SC k n s [] i = MD k n (decide (s = 2)) i := by
  intro m
  induction m with
  | zero => intro i h; omega
  | succ m ih =>
    intro i h
    rw [SC_eq, MD_eq]
    by_cases hi : i < n
    · rw [if_pos hi, if_pos hi, nx_fix hs]
      by_cases h4 : k i = 4
      · simp [h4]
      · rw [if_neg (by simp [h4]), if_neg h4]
        by_cases h10 : k i = 10 ∧ s ≠ 2
        · have : decide (s = 2) = false := by simp [h10.2]
          rw [if_pos ⟨h10.1, rfl, h10.2⟩, if_pos ⟨h10.1, this⟩]
        · have x1 : ¬ (k i = 10 ∧ ([] : List Nat) = [] ∧ s ≠ 2) := by rintro ⟨a, -, b⟩; exact h10 ⟨a, b⟩
          have x2 : ¬ (k i = 10 ∧ decide (s = 2) = false) := by rintro ⟨a, b⟩; exact h10 ⟨a, by simpa using b⟩
          rw [if_neg x1, if_neg x2]
          by_cases h11 : k i = 11
          · have x3 : k i = 11 ∧ ([] : List Nat).head? ≠ some 11 := ⟨h11, by simp⟩
            rw [if_pos x3, if_pos h11]
          · have x3 : ¬ (k i = 11 ∧ ([] : List Nat).head? ≠ some 11) := by rintro ⟨a, -⟩; exact h11 a
            rw [if_neg x3, if_neg h11]
            cases hcl : cl (k i) with
            | none =>
              have es : stk [] (k i) = [] := by unfold stk; rw [hcl]; simp
              rw [es]
              exact ih (i + 1) (by omega)
            | some x =>
              have es : stk [] (k i) = [x] := by unfold stk; rw [hcl]
              rw [es, SC_in k n hs (n - (i + 1) + 1) (i + 1) x [] (by omega) (cl_ne hcl).1]
              dsimp only
              cases h2 : SK k n x (i + 1) with
              | none => rfl
              | some e =>
                have a := SK_gt k n h2
                exact ih e (by omega)
    · simp [hi]
/-- The index of the first token from i on that is no whitespace. -/
def wsp : Nat → Nat → Nat
  | 0, i => i
  | f + 1, i => if i < n ∧ k i = 0 then wsp f (i + 1) else i
def W (i : Nat) : Nat := wsp k n (n + 1) i
theorem wsp_fuel : ∀ (f f' i : Nat), n - i < f → n - i < f' → wsp k n f i = wsp k n f' i := by
  intro f
  induction f with
  | zero => intro f' i h; omega
  | succ f ih =>
    intro f' i h h'
    obtain ⟨g, rfl⟩ : ∃ g, f' = g + 1 := ⟨f' - 1, by omega⟩
    rw [wsp, wsp]
    by_cases hi : i < n ∧ k i = 0
    · simp only [hi, and_self, if_true]
      exact ih g (i + 1) (by omega) (by omega)
    · simp [hi]
theorem W_eq (i : Nat) : W k n i = if i < n ∧ k i = 0 then W k n (i + 1) else i := by
  unfold W
  conv => lhs; rw [wsp]
  by_cases hi : i < n ∧ k i = 0
  · simp only [hi, and_self, if_true]
    exact wsp_fuel k n n (n + 1) (i + 1) (by omega) (by omega)
  · simp [hi]
theorem W_le : ∀ (m i : Nat), n - i < m → i ≤ n → i ≤ W k n i ∧ W k n i ≤ n := by
  intro m
  induction m with
  | zero => intro i h; omega
  | succ m ih =>
    intro i h hn
    rw [W_eq]
    split
    · have := ih (i + 1) (by omega) (by omega); omega
    · omega
/-- The head of a custom property stands at i. -/
def CH (i : Nat) : Bool := decide (W k n i < n) && decide (k (W k n i) = 2) && decide (W k n (W k n i + 1) < n) && decide (k (W k n (W k n i + 1)) = 3)
def CH1 (i : Nat) : Bool := decide (W k n i < n) && decide (k (W k n i) = 3)
theorem SC_st1 : ∀ (m i : Nat), n - i < m → SC k n 1 [] i = MD k n (CH1 k n i) i := by
  intro m
  induction m with
  | zero => intro i h; omega
  | succ m ih =>
    intro i h
    by_cases hi : i < n
    · by_cases h0 : k i = 0
      · have e1 : CH1 k n i = CH1 k n (i + 1) := by unfold CH1; rw [W_eq k n i, if_pos ⟨hi, h0⟩]
        have e2 : SC k n 1 [] i = SC k n 1 [] (i + 1) := by rw [SC_eq, if_pos hi, h0]; simp [nx, stk, cl]
        have e3 : ∀ acc, MD k n acc i = MD k n acc (i + 1) := by intro acc; rw [MD_eq, if_pos hi, h0]; simp [cl]
        rw [e1, e2, e3]
        exact ih (i + 1) (by omega)
      · have ew : W k n i = i := by rw [W_eq, if_neg (by simp [h0])]
        have e1 : CH1 k n i = decide (k i = 3) := by unfold CH1; rw [ew]; simp [hi]
        by_cases h3 : k i = 3
        · have e2 : SC k n 1 [] i = SC k n 2 [] i := by rw [SC_eq, SC_eq k n 2, if_pos hi, if_pos hi, h3]; simp [nx]
          rw [e1, e2, SC_out k n (.inl rfl) _ i h]; simp [h3]
        · have en : nx 1 (k i) = 3 := by simp [nx, h3, h0]
          have en' : nx 3 (k i) = 3 := by simp [nx]
          have e2 : SC k n 1 [] i = SC k n 3 [] i := by rw [SC_eq, SC_eq k n 3, en, en']
          rw [e1, e2, SC_out k n (.inr rfl) _ i h]; simp [h3]
    · rw [SC_eq, MD_eq, if_neg hi, if_neg hi]
theorem SC_st0 : ∀ (m i : Nat), n - i < m → SC k n 0 [] i = MD k n (CH k n i) i := by
  intro m
  induction m with
  | zero => intro i h; omega
  | succ m ih =>
    intro i h
    by_cases hi : i < n
    · by_cases h0 : k i = 0
      · have e1 : CH k n i = CH k n (i + 1) := by unfold CH; rw [W_eq k n i, if_pos ⟨hi, h0⟩]
        have e2 : SC k n 0 [] i = SC k n 0 [] (i + 1) := by rw [SC_eq, if_pos hi, h0]; simp [nx, stk, cl]
        have e3 : ∀ acc, MD k n acc i = MD k n acc (i + 1) := by intro acc; rw [MD_eq, if_pos hi, h0]; simp [cl]
        rw [e1, e2, e3]
        exact ih (i + 1) (by omega)
      · have ew : W k n i = i := by rw [W_eq, if_neg (by simp [h0])]
        by_cases h2 : k i = 2
        · have e1 : CH k n i = CH1 k n (i + 1) := by unfold CH CH1; rw [ew]; simp [hi, h2]
          have e2 : SC k n 0 [] i = SC k n 1 [] (i + 1) := by rw [SC_eq, if_pos hi, h2]; simp [nx, stk, cl]
          have e3 : ∀ acc, MD k n acc i = MD k n acc (i + 1) := by intro acc; rw [MD_eq, if_pos hi, h2]; simp [cl]
          rw [e1, e2, e3]
          exact SC_st1 k n (n - (i + 1) + 1) (i + 1) (by omega)
        · have e1 : CH k n i = false := by unfold CH; rw [ew]; simp [h2]
          have en : nx 0 (k i) = 3 := by simp [nx, h2, h0]
          have en' : nx 3 (k i) = 3 := by simp [nx]
          have e2 : SC k n 0 [] i = SC k n 3 [] i := by rw [SC_eq, SC_eq k n 3, en, en']
          rw [e1, e2, SC_out k n (.inr rfl) _ i h]; simp
    · rw [SC_eq, MD_eq, if_neg hi, if_neg hi]
/-- The scanner and the model agree. -/
theorem agree (i : Nat) : SC k n 0 [] i = MD k n (CH k n i) i := SC_st0 k n (n - i + 1) i (by omega)
theorem SC_pos : ∀ (m s : Nat) (st : List Nat) (i : Nat), n - i < m → SC k n s st i = (0, -1) ∨ ∃ p : Nat, (SC k n s st i).2 = (p : Int) ∧ i ≤ p ∧ p < n := by
  intro m
  induction m with
  | zero => intro s st i h; omega
  | succ m ih =>
    intro s st i h
    rw [SC_eq]
    by_cases hi : i < n
    · rw [if_pos hi]
      split
      · exact .inr ⟨i, rfl, Nat.le_refl _, hi⟩
      · split
        · exact .inr ⟨i, rfl, Nat.le_refl _, hi⟩
        · split
          · exact .inl rfl
          · rcases ih (nx s (k i)) (stk st (k i)) (i + 1) (by omega) with h1 | ⟨p, h1, h2, h3⟩
            · exact .inl h1
            · exact .inr ⟨p, h1, by omega, h3⟩
    · rw [if_neg hi]; exact .inl rfl
end
/-- Tokens laid ahead. -/
theorem SC_shift {k k' : Nat → Nat} {n a : Nat} (hk : ∀ j, j < n → k' (a + j) = k j) : ∀ (m s : Nat) (st : List Nat) (i : Nat), n - i < m →
    SC k' (a + n) s st (a + i) = (if (SC k n s st i).2 = -1 then SC k n s st i else ((SC k n s st i).1, (SC k n s st i).2 + a)) := by
  intro m
  induction m with
  | zero => intro s st i h; omega
  | succ m ih =>
    intro s st i h
    rw [SC_eq, SC_eq k]
    by_cases hi : i < n
    · rw [if_pos (by omega), if_pos hi, hk i hi]
      have n1 : ((i : Nat) : Int) ≠ -1 := by omega
      split
      · simp; omega
      · split
        · simp; omega
        · split
          · simp
          · rw [Nat.add_assoc]; exact ih _ _ (i + 1) (by omega)
    · rw [if_neg (by omega), if_neg hi]; simp
/-! Groups. -/
def kid (c : Nat) : Nat := if c = 2 ∨ c = 13 then 1 else c
section
variable (k : Nat → Nat) (n : Nat)
def pblk : Nat → Nat → Nat → Option Nat
  | 0, _, _ => none
  | f + 1, c, i =>
    if i < n then
      if kid (k i) = c then some (i + 1)
      else match cl (k i) with
        | some x => (pblk f x (i + 1)).bind (fun e => pblk f c e)
        | none => pblk f c (i + 1)
    else none
def PB (c i : Nat) : Option Nat := pblk k n (n + 1) c i
theorem pblk_gt : ∀ (f c i e : Nat), pblk k n f c i = some e → i < e ∧ e ≤ n := by
  intro f
  induction f with
  | zero => intro want i e h; simp [pblk] at h
  | succ f ih =>
    intro want i e h
    rw [pblk] at h
    split at h
    · rename_i hi
      split at h
      · simp at h; omega
      · split at h
        · rename_i c _
          cases h1 : pblk k n f c (i + 1) with
          | none => rw [h1] at h; cases h
          | some e1 =>
            rw [h1] at h
            have a := ih _ _ _ h1
            have b := ih _ _ _ h
            omega
        · have b := ih _ _ _ h; omega
    · cases h
theorem pblk_fuel : ∀ (f f' want i : Nat), n - i < f → n - i < f' → pblk k n f want i = pblk k n f' want i := by
  intro f
  induction f with
  | zero => intro f' want i h; omega
  | succ f ih =>
    intro f' want i h h'
    obtain ⟨g, rfl⟩ : ∃ g, f' = g + 1 := ⟨f' - 1, by omega⟩
    rw [pblk, pblk]
    by_cases hi : i < n
    · simp only [hi, if_true]
      split
      · rfl
      · split
        · rename_i c _
          rw [ih g c (i + 1) (by omega) (by omega)]
          cases h1 : pblk k n g c (i + 1) with
          | none => rfl
          | some e1 =>
            have a := pblk_gt k n _ _ _ _ h1
            exact ih g want e1 (by omega) (by omega)
        · exact ih g want (i + 1) (by omega) (by omega)
    · simp [hi]
theorem PB_eq (c i : Nat) : PB k n c i = if i < n then (if kid (k i) = c then some (i + 1) else match cl (k i) with
        | some x => (PB k n x (i + 1)).bind (fun e => PB k n c e)
        | none => PB k n c (i + 1)) else none := by
  unfold PB
  by_cases hi : i < n
  · conv => lhs; rw [pblk]
    simp only [hi, if_true]
    split
    · rfl
    · split
      · rename_i x _
        rw [pblk_fuel k n n (n + 1) x (i + 1) (by omega) (by omega)]
        cases h1 : pblk k n (n + 1) x (i + 1) with
        | none => rfl
        | some e1 =>
          have a := pblk_gt k n _ _ _ _ h1
          exact pblk_fuel k n n (n + 1) c e1 (by omega) (by omega)
      · exact pblk_fuel k n n (n + 1) c (i + 1) (by omega) (by omega)
  · rw [pblk]; simp [hi]
theorem PB_gt {c i e : Nat} (h : PB k n c i = some e) : i < e ∧ e ≤ n := pblk_gt k n _ _ _ _ h
/-- The explicit stack. -/
def gstk : Nat → List Nat → Nat → Option Nat
  | 0, _, _ => none
  | f + 1, st, i =>
    if i < n then
      if st.head? = some (kid (k i)) then (if st.tail = [] then some (i + 1) else gstk f st.tail (i + 1))
      else match cl (k i) with
        | some x => gstk f (x :: st) (i + 1)
        | none => gstk f st (i + 1)
    else none
def GS (st : List Nat) (i : Nat) : Option Nat := gstk k n (n + 1) st i
theorem gstk_fuel : ∀ (f f' : Nat) (st : List Nat) (i : Nat), n - i < f → n - i < f' → gstk k n f st i = gstk k n f' st i := by
  intro f
  induction f with
  | zero => intro f' st i h; omega
  | succ f ih =>
    intro f' st i h h'
    obtain ⟨g, rfl⟩ : ∃ g, f' = g + 1 := ⟨f' - 1, by omega⟩
    rw [gstk, gstk]
    by_cases hi : i < n
    · simp only [hi, if_true]
      rw [ih g st.tail (i + 1) (by omega) (by omega), ih g st (i + 1) (by omega) (by omega)]
      split
      · rfl
      · split
        · rename_i x _
          exact ih g (x :: st) (i + 1) (by omega) (by omega)
        · rfl
    · simp [hi]
theorem GS_eq (st : List Nat) (i : Nat) : GS k n st i = if i < n then (if st.head? = some (kid (k i)) then (if st.tail = [] then some (i + 1) else GS k n st.tail (i + 1)) else match cl (k i) with
        | some x => GS k n (x :: st) (i + 1)
        | none => GS k n st (i + 1)) else none := by
  unfold GS
  by_cases hi : i < n
  · conv => lhs; rw [gstk]
    simp only [hi, if_true]
    rw [gstk_fuel k n n (n + 1) st.tail (i + 1) (by omega) (by omega), gstk_fuel k n n (n + 1) st (i + 1) (by omega) (by omega)]
    split
    · rfl
    · split
      · rename_i x _
        exact gstk_fuel k n n (n + 1) (x :: st) (i + 1) (by omega) (by omega)
      · rfl
  · rw [gstk]; simp [hi]
theorem GS_PB : ∀ (m i c : Nat) (st : List Nat), n - i < m → GS k n (c :: st) i = (PB k n c i).bind (fun e => if st = [] then some e else GS k n st e) := by
  intro m
  induction m with
  | zero => intro i c st h; omega
  | succ m ih =>
    intro i c st h
    rw [GS_eq, PB_eq]
    by_cases hi : i < n
    · rw [if_pos hi, if_pos hi]
      by_cases h1 : kid (k i) = c
      · rw [if_pos (by simp [h1]), if_pos h1]; rfl
      · rw [if_neg (by simp; exact fun h => h1 h.symm), if_neg h1]
        cases hcl : cl (k i) with
        | none => exact ih (i + 1) c st (by omega)
        | some x =>
          dsimp only
          rw [ih (i + 1) x (c :: st) (by omega)]
          cases h2 : PB k n x (i + 1) with
          | none => rfl
          | some e =>
            have a := PB_gt k n h2
            simp only [Option.bind_some, List.cons_ne_nil, if_false]
            exact ih e c st (by omega)
    · simp [hi]
theorem GS_one (c i : Nat) : GS k n [c] i = PB k n c i := by
  rw [GS_PB k n (n - i + 1) i c [] (by omega)]
  cases PB k n c i <;> rfl
end
/-- What lies behind a closed group does not matter. -/
theorem PB_local {k k' : Nat → Nat} {n n' E : Nat} (hk : ∀ j, j < E → k' j = k j) (hE : E ≤ n') : ∀ (m i c e : Nat), n - i < m → PB k n c i = some e → e ≤ E → PB k' n' c i = some e := by
  intro m
  induction m with
  | zero => intro i c e h; omega
  | succ m ih =>
    intro i c e h he hle
    have a := PB_gt k n he
    rw [PB_eq] at he ⊢
    have hi : i < n := by omega
    rw [if_pos hi] at he
    rw [if_pos (by omega), hk i (by omega)]
    split at he
    · rename_i h1; rw [if_pos h1]; exact he
    · rename_i h1
      rw [if_neg h1]
      split at he
      · rename_i x hx
        cases h2 : PB k n x (i + 1) with
        | none => rw [h2] at he; cases he
        | some e1 =>
          rw [h2] at he
          have a1 := PB_gt k n h2
          have he' : PB k n c e1 = some e := he
          have a2 := PB_gt k n he'
          rw [ih (i + 1) x e1 (by omega) h2 (by omega)]
          exact ih e1 c e (by omega) he' hle
      · exact ih (i + 1) c e (by omega) he hle
end Go.Proofs.YtajkdjheoefbcaaFmt.PL
