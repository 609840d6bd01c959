/- Which texts strings.ToLower sends to a word of ASCII letters. Of no program. -/
import Derived.Lib.MapLaws
import Derived.Lib.TrimAscii
import Derived.Lib.TrimUEq
import Derived.Lib.Case
namespace Go.Proofs.YtmfpgnedeonmiaaDoor.LO
open Go.Lib
theorem look_some (T : Array CaseRow) (r : Int) : ∀ (f lo hi i : Nat), lookupIdx T r f lo hi = some i → i < hi ∧ ((T.getD i (0, 0, 0, 0, 0)).1 : Int) ≤ r ∧ r ≤ ((T.getD i (0, 0, 0, 0, 0)).2.1 : Int)
  | 0, _, _, _, h => by simp [lookupIdx] at h
  | f + 1, lo, hi, i, h => by
    unfold lookupIdx at h
    split at h
    · split at h
      · rename_i h1 h2
        cases h
        exact ⟨by omega, h2.1, h2.2⟩
      · split at h
        · obtain ⟨a, b⟩ := look_some T r f _ _ _ h
          exact ⟨by omega, b⟩
        · exact look_some T r f _ _ _ h
    · cases h
/-- A row of the table sends no rune from 128 on below 128, but for U+0130 and U+212A. -/
def rowLow (x : CaseRow) : Bool := decide (x.2.1 < 128) || (if x.delta 1 > 1114111 then decide (128 ≤ x.1) else decide (128 ≤ (x.1 : Int) + x.delta 1)) || (x.1 == x.2.1 && (x.1 == 304 || x.1 == 8490))
theorem rowsLow : caseT.all rowLow = true := by decide +kernel
theorem row_at (i : Nat) (hi : i < caseA.size) : rowLow (caseA.getD i (0, 0, 0, 0, 0)) = true := by
  have hm : caseA.getD i (0, 0, 0, 0, 0) ∈ caseT := by
    unfold caseA at hi ⊢
    simp only [List.size_toArray] at hi
    simp [Array.getD, hi]
  exact List.all_eq_true.1 rowsLow _ hm
theorem lowU_low (r : Nat) (h : 128 ≤ r) (hl : toLowerU r < 128) : r = 304 ∨ r = 8490 := by
  unfold toLowerU at hl
  rw [if_neg (by omega)] at hl
  unfold toR lookupGo at hl
  cases hi : lookupIdx caseA r (caseA.size + 1) 0 caseA.size with
  | none => rw [hi] at hl; simp at hl; omega
  | some i =>
    rw [hi] at hl
    obtain ⟨h1, h2, h3⟩ := look_some caseA r _ _ _ i hi
    have hr := row_at i h1
    simp only [Option.map_some] at hl
    generalize caseA.getD i (0, 0, 0, 0, 0) = x at *
    unfold convertR at hl
    unfold rowLow at hr
    simp only [Bool.or_eq_true, Bool.and_eq_true, decide_eq_true_eq, beq_iff_eq] at hr
    rcases hr with (hr | hr) | hr
    · omega
    · split at hl
      · rename_i hd
        rw [if_pos hd, decide_eq_true_eq] at hr
        omega
      · rename_i hd
        rw [if_neg hd, decide_eq_true_eq] at hr
        omega
    · omega
theorem lowU_304 : toLowerU (304 : Nat) = 105 := by decide +kernel
theorem lowU_8490 : toLowerU (8490 : Nat) = 107 := by decide +kernel
theorem enc_head (v : Int) (h : ¬ (0 ≤ v ∧ v ≤ 127)) : ∃ b r, encodeRune v = b :: r ∧ 128 ≤ b.toNat := by
  unfold encodeRune encodeRuneZ
  rw [if_neg h]
  split
  · refine ⟨_, _, rfl, ?_⟩
    rw [Nat.toUInt8, UInt8.toNat_ofNat']
    omega
  · split
    · refine ⟨_, _, rfl, ?_⟩
      rw [Nat.toUInt8, UInt8.toNat_ofNat']
      omega
    · split
      · refine ⟨_, _, rfl, ?_⟩
        rw [Nat.toUInt8, UInt8.toNat_ofNat']
        omega
      · exact ⟨239, [191, 189], rfl, by decide⟩
set_option maxRecDepth 100000 in
theorem low_byte : ∀ i : Fin 128, encodeRune (toLowerU (i.val : Int)) = [lowerB (UInt8.ofNat i.val)] := by decide
theorem lowU_nonneg (r : Nat) (h : r < 128) : 0 ≤ toLowerU r := by unfold toLowerU; split <;> (try split) <;> omega
theorem lowD_ascii (b : UInt8) (t : List UInt8) (hb : b.toNat < 128) : toLowerD (b :: t) = lowerB b :: toLowerD t := by
  unfold toLowerD
  rw [mapD_step toLowerU (b :: t) (by simp), decodeL_ascii b t hb]
  dsimp only
  rw [if_pos (lowU_nonneg b.toNat hb), low_byte ⟨b.toNat, hb⟩, List.drop_succ_cons, List.drop_zero]
  simp
theorem lowD_nil : toLowerD [] = [] := rfl
/-- A text that begins with a byte from 128 on: what its lower case begins with. -/
theorem lowD_high (b : UInt8) (l : List UInt8) (hb : 128 ≤ b.toNat) (c : UInt8) (t : List UInt8) (hc : c.toNat < 128) (h : toLowerD (b :: l) = c :: t) :
    (c = 105 ∧ ∃ l', b :: l = 196 :: 176 :: l' ∧ toLowerD l' = t) ∨ (c = 107 ∧ ∃ l', b :: l = 226 :: 132 :: 170 :: l' ∧ toLowerD l' = t) := by
  unfold toLowerD at h
  rw [mapD_step toLowerU (b :: l) (by simp)] at h
  have hv := decodeL_N (b :: l)
  have hb0 : ((b :: l).getD 0 0).toNat = b.toNat := rfl
  have hlt0 := b.toNat_lt
  have hlt1 := ((b :: l).getD 1 0).toNat_lt
  have hlt2 := ((b :: l).getD 2 0).toNat_lt
  have shape := decodeN_shape (b :: l).length ((b :: l).getD 0 0).toNat ((b :: l).getD 1 0).toNat ((b :: l).getD 2 0).toNat ((b :: l).getD 3 0).toNat
  rw [← hv, hb0] at shape
  have h128 : 128 ≤ (decodeL (b :: l)).1 := by
    rcases shape with h | h | h | h | h
    · omega
    · rw [h.2.2.2.2]; exact h.2.2.2.1
    · rw [h.2.2.2.2.2.2]; dsimp only; omega
    · rw [h.2.2.2.2.2.2.2]; dsimp only; omega
    · rw [h]; decide
  by_cases hlow : toLowerU ((decodeL (b :: l)).1 : Nat) < 128
  · rcases lowU_low _ h128 hlow with e | e
    · rw [e, lowU_304, if_pos (by omega), show encodeRune 105 = [105] from by decide] at h
      simp only [List.cons_append, List.nil_append, List.cons.injEq] at h
      left
      refine ⟨h.1.symm, ?_⟩
      rcases shape with s | s | s | s | s
      · omega
      · rw [s.2.2.2.2] at e h
        dsimp only at e h
        have h2 := s.2.1
        cases l with
        | nil => simp at h2
        | cons b1 l' =>
          refine ⟨l', ?_, ?_⟩
          · have e1 : b.toNat = 196 := by have := s.1; have := s.2.2.1; simp at *; omega
            have e2 : b1.toNat = 176 := by have := s.1; have := s.2.2.1; simp at *; omega
            rw [show b = 196 from UInt8.toNat_inj.1 e1, show b1 = 176 from UInt8.toNat_inj.1 e2]
          · exact h.2
      · rw [s.2.2.2.2.2.2] at e; dsimp only at e; have := s.2.2.2.2.1; omega
      · rw [s.2.2.2.2.2.2.2] at e; dsimp only at e; have := s.2.2.2.2.2.1; omega
      · rw [s] at e; simp at e
    · rw [e, lowU_8490, if_pos (by omega), show encodeRune 107 = [107] from by decide] at h
      simp only [List.cons_append, List.nil_append, List.cons.injEq] at h
      right
      refine ⟨h.1.symm, ?_⟩
      rcases shape with s | s | s | s | s
      · omega
      · rw [s.2.2.2.2] at e; dsimp only at e; omega
      · rw [s.2.2.2.2.2.2] at e h
        dsimp only at e h
        have h3 := s.2.1
        cases l with
        | nil => simp at h3
        | cons b1 l1 =>
          cases l1 with
          | nil => simp at h3
          | cons b2 l' =>
            refine ⟨l', ?_, ?_⟩
            · have a1 := s.1
              have a2 := s.2.2.1
              have a3 := s.2.2.2.1
              simp at a2 a3 e
              have e1 : b.toNat = 226 := by omega
              have e2 : b1.toNat = 132 := by omega
              have e3 : b2.toNat = 170 := by omega
              rw [show b = 226 from UInt8.toNat_inj.1 e1, show b1 = 132 from UInt8.toNat_inj.1 e2, show b2 = 170 from UInt8.toNat_inj.1 e3]
            · exact h.2
      · rw [s.2.2.2.2.2.2.2] at e; dsimp only at e; have := s.2.2.2.2.2.1; omega
      · rw [s] at e; simp at e
  · exfalso
    obtain ⟨x, r, he, hx⟩ := enc_head (toLowerU ((decodeL (b :: l)).1 : Nat)) (by omega)
    rw [if_pos (by omega), he] at h
    simp only [List.cons_append, List.cons.injEq] at h
    rw [h.1] at hx
    omega
theorem lowD_i (l : List UInt8) : toLowerD (196 :: 176 :: l) = 105 :: toLowerD l := by
  unfold toLowerD
  rw [mapD_step toLowerU _ (by simp)]
  have hd : decodeL (196 :: 176 :: l) = (304, 2) := by rw [decodeL_N]; simp [decodeN]
  rw [hd]
  dsimp only
  rw [lowU_304, if_pos (by omega), show encodeRune 105 = [105] from by decide]
  simp
theorem lowD_k (l : List UInt8) : toLowerD (226 :: 132 :: 170 :: l) = 107 :: toLowerD l := by
  unfold toLowerD
  rw [mapD_step toLowerU _ (by simp)]
  have hd : decodeL (226 :: 132 :: 170 :: l) = (8490, 3) := by rw [decodeL_N]; simp [decodeN]
  rw [hd]
  dsimp only
  rw [lowU_8490, if_pos (by omega), show encodeRune 107 = [107] from by decide]
  simp
/-- What the lower case of a text begins with. -/
theorem lowD_cons (l : List UInt8) (c : UInt8) (t : List UInt8) (hc : c.toNat < 128) : toLowerD l = c :: t ↔
    (∃ b l', l = b :: l' ∧ b.toNat < 128 ∧ lowerB b = c ∧ toLowerD l' = t) ∨ (c = 105 ∧ ∃ l', l = 196 :: 176 :: l' ∧ toLowerD l' = t) ∨ (c = 107 ∧ ∃ l', l = 226 :: 132 :: 170 :: l' ∧ toLowerD l' = t) := by
  constructor
  · intro h
    cases l with
    | nil => simp [lowD_nil] at h
    | cons b l' =>
      by_cases hb : b.toNat < 128
      · rw [lowD_ascii b l' hb] at h
        simp only [List.cons.injEq] at h
        exact .inl ⟨b, l', rfl, hb, h.1, h.2⟩
      · exact .inr (lowD_high b l' (by omega) c t hc h)
  · rintro (⟨b, l', rfl, hb, rfl, rfl⟩ | ⟨rfl, l', rfl, rfl⟩ | ⟨rfl, l', rfl, rfl⟩)
    · exact lowD_ascii b l' hb
    · exact lowD_i l'
    · exact lowD_k l'
theorem lowD_eq_nil (l : List UInt8) : toLowerD l = [] ↔ l = [] := by
  constructor
  · intro h
    cases l with
    | nil => rfl
    | cons b l' =>
      exfalso
      by_cases hb : b.toNat < 128
      · rw [lowD_ascii b l' hb] at h; cases h
      · unfold toLowerD at h
        rw [mapD_step toLowerU (b :: l') (by simp)] at h
        have h1 := (List.append_eq_nil_iff.1 h).1
        by_cases hlow : toLowerU ((decodeL (b :: l')).1 : Nat) < 0
        · have h2 : toLowerU ((decodeL (b :: l')).1 : Nat) < 128 := by omega
          by_cases h3 : 128 ≤ (decodeL (b :: l')).1
          · rcases lowU_low _ h3 h2 with e | e
            · rw [e, lowU_304] at hlow; omega
            · rw [e, lowU_8490] at hlow; omega
          · have := lowU_nonneg _ (Nat.lt_of_not_le h3); omega
        · rw [if_pos (by omega)] at h1
          by_cases h4 : toLowerU ((decodeL (b :: l')).1 : Nat) ≤ 127
          · unfold encodeRune encodeRuneZ at h1; rw [if_pos ⟨by omega, h4⟩] at h1; simp at h1
          · obtain ⟨x, r, he, -⟩ := enc_head (toLowerU ((decodeL (b :: l')).1 : Nat)) (by omega)
            rw [he] at h1; cases h1
  · rintro rfl; rfl
theorem lowerB_lt (b : UInt8) (h : (lowerB b).toNat < 128) : b.toNat < 128 := by
  unfold lowerB at h
  split at h
  · rename_i h1
    unfold isUpperB at h1
    simp only [Bool.and_eq_true, decide_eq_true_eq] at h1
    have h2 : b.toNat ≤ 90 := UInt8.le_iff_toNat_le.1 h1.2
    omega
  · exact h
/-- A word without 'i' and 'k': the letters' case alone. -/
theorem lowD_word : ∀ (w : List UInt8), (∀ c ∈ w, c.toNat < 128 ∧ c ≠ 105 ∧ c ≠ 107) → ∀ l, toLowerD l = w ↔ l.map lowerB = w := by
  intro w
  induction w with
  | nil => intro _ l; rw [lowD_eq_nil]; simp
  | cons c t ih =>
    intro hw l
    have hc := hw c (List.mem_cons_self ..)
    have ih := ih (fun x hx => hw x (List.mem_cons_of_mem _ hx))
    rw [lowD_cons l c t hc.1]
    constructor
    · rintro (⟨b, l', rfl, hb, rfl, h⟩ | ⟨h, -⟩ | ⟨h, -⟩)
      · rw [List.map_cons, (ih l').1 h]
      · exact absurd h hc.2.1
      · exact absurd h hc.2.2
    · intro h
      cases l with
      | nil => cases h
      | cons b l' =>
        simp only [List.map_cons, List.cons.injEq] at h
        exact .inl ⟨b, l', rfl, lowerB_lt b (by rw [h.1]; exact hc.1), h.1, (ih l').2 h.2⟩
theorem enc_le4 (z : Int) : (encodeRune z).length ≤ 4 := by
  unfold encodeRune encodeRuneZ
  rw [List.length_map]
  repeat' split
  all_goals simp
theorem mapD_len4 (f : Int → Int) : ∀ (n : Nat) (l : List UInt8), l.length ≤ n → (mapD f l).length ≤ 4 * l.length
  | 0, l, hn => by
    have : l = [] := List.eq_nil_of_length_eq_zero (by omega)
    subst this
    simp [mapD_nil]
  | n + 1, l, hn => by
    by_cases hne : l = []
    · subst hne
      simp [mapD_nil]
    · have hw := decodeL_width l
      have hle := decodeL_le l hne
      have ih := mapD_len4 f n (l.drop (decodeL l).2) (by rw [List.length_drop]; omega)
      rw [List.length_drop] at ih
      rw [mapD_step f l hne, List.length_append]
      have hh : (if 0 ≤ f (decodeL l).1 then encodeRune (f (decodeL l).1) else []).length ≤ 4 := by
        split
        · exact enc_le4 _
        · simp
      omega
/-- The lower case is at most four times as long. -/
theorem lowD_len (l : List UInt8) : (toLowerD l).length ≤ 4 * l.length := mapD_len4 toLowerU l.length l (Nat.le_refl _)
/-- The fold by hand: ASCII letters, U+0130 to 'i', U+212A to 'k'; any other byte from 128 on rules it out. -/
def foldM : Nat → List UInt8 → Option (List UInt8)
  | 0, _ => some []
  | _ + 1, [] => some []
  | n + 1, b :: l =>
    if b.toNat < 128 then (foldM n l).map (lowerB b :: ·)
    else if b = 196 ∧ l.head? = some 176 then (foldM n l.tail).map ((105 : UInt8) :: ·)
    else if b = 226 ∧ l.head? = some 132 ∧ l.tail.head? = some 170 then (foldM n l.tail.tail).map ((107 : UInt8) :: ·)
    else none
theorem foldM_fuel : ∀ (n m : Nat) (l : List UInt8), l.length ≤ n → l.length ≤ m → foldM n l = foldM m l := by
  intro n
  induction n with
  | zero =>
    intro m l h1 h2
    have : l = [] := List.eq_nil_of_length_eq_zero (by omega)
    subst this
    cases m <;> rfl
  | succ n ih =>
    intro m l h1 h2
    cases l with
    | nil => cases m <;> rfl
    | cons b l =>
      simp only [List.length_cons] at h1 h2
      obtain ⟨m', rfl⟩ : ∃ m', m = m' + 1 := ⟨m - 1, by omega⟩
      have t1 : l.tail.length ≤ l.length := by simp
      have t2 : l.tail.tail.length ≤ l.length := by simp; omega
      simp only [foldM]
      rw [ih m' l (by omega) (by omega), ih m' l.tail (by omega) (by omega), ih m' l.tail.tail (by omega) (by omega)]
def FM (l : List UInt8) : Option (List UInt8) := foldM l.length l
theorem FM_nil : FM [] = some [] := rfl
theorem FM_cons (b : UInt8) (l : List UInt8) : FM (b :: l) = if b.toNat < 128 then (FM l).map (lowerB b :: ·)
    else if b = 196 ∧ l.head? = some 176 then (FM l.tail).map ((105 : UInt8) :: ·)
    else if b = 226 ∧ l.head? = some 132 ∧ l.tail.head? = some 170 then (FM l.tail.tail).map ((107 : UInt8) :: ·)
    else none := by
  have t1 : l.tail.length ≤ l.length := by simp
  have t2 : l.tail.tail.length ≤ l.length := by simp; omega
  unfold FM
  rw [List.length_cons]
  simp only [foldM]
  rw [foldM_fuel l.length l.tail.length l.tail (by omega) (by omega), foldM_fuel l.length l.tail.tail.length l.tail.tail (by omega) (by omega)]
theorem FM_low : ∀ (n : Nat) (l f : List UInt8), l.length ≤ n → FM l = some f → toLowerD l = f := by
  intro n
  induction n with
  | zero =>
    intro l f h hf
    have : l = [] := List.eq_nil_of_length_eq_zero (by omega)
    subst this
    rw [FM_nil] at hf
    cases hf
    rfl
  | succ n ih =>
    intro l f h hf
    cases l with
    | nil => rw [FM_nil] at hf; cases hf; rfl
    | cons b l =>
      simp only [List.length_cons] at h
      rw [FM_cons] at hf
      split at hf
      · rename_i hb
        cases hr : FM l with
        | none => rw [hr] at hf; cases hf
        | some g =>
          rw [hr] at hf
          cases hf
          rw [lowD_ascii b l hb, ih l g (by omega) hr]
      · split at hf
        · rename_i hb h2
          cases l with
          | nil => simp at h2
          | cons b1 l' =>
            obtain ⟨rfl, h3⟩ := h2
            obtain rfl : b1 = 176 := by simpa using h3
            cases hr : FM l' with
            | none => rw [List.tail_cons, hr] at hf; cases hf
            | some g =>
              rw [List.tail_cons, hr] at hf
              cases hf
              rw [lowD_i, ih l' g (by simp at h; omega) hr]
        · split at hf
          · rename_i hb h1 h2
            cases l with
            | nil => simp at h2
            | cons b1 l1 =>
              cases l1 with
              | nil => simp at h2
              | cons b2 l' =>
                obtain ⟨rfl, h3, h4⟩ := h2
                obtain rfl : b1 = 132 := by simpa using h3
                obtain rfl : b2 = 170 := by simpa using h4
                cases hr : FM l' with
                | none => rw [List.tail_cons, List.tail_cons, hr] at hf; cases hf
                | some g =>
                  rw [List.tail_cons, List.tail_cons, hr] at hf
                  cases hf
                  rw [lowD_k, ih l' g (by simp at h; omega) hr]
          · cases hf
theorem low_FM : ∀ (w : List UInt8), (∀ c ∈ w, c.toNat < 128) → ∀ l, toLowerD l = w → FM l = some w := by
  intro w
  induction w with
  | nil => intro _ l h; rw [(lowD_eq_nil l).1 h]; rfl
  | cons c t ih =>
    intro hw l h
    have ih := ih (fun x hx => hw x (List.mem_cons_of_mem _ hx))
    rcases (lowD_cons l c t (hw c (List.mem_cons_self ..))).1 h with ⟨b, l', rfl, hb, rfl, h2⟩ | ⟨rfl, l', rfl, h2⟩ | ⟨rfl, l', rfl, h2⟩
    · rw [FM_cons, if_pos hb, ih l' h2]; rfl
    · rw [FM_cons, if_neg (by decide), if_pos ⟨rfl, rfl⟩, List.tail_cons, ih l' h2]; rfl
    · rw [FM_cons, if_neg (by decide), if_neg (fun h => absurd h.1 (by decide)), if_pos ⟨rfl, rfl, rfl⟩, List.tail_cons, List.tail_cons, ih l' h2]; rfl
/-- A set of ASCII words holds the lower case of a text exactly if the fold by hand finds one of them. -/
theorem word_fold (ws : List (List UInt8)) (hw : ∀ w ∈ ws, ∀ c ∈ w, c.toNat < 128) (l : List UInt8) : decide (toLowerD l ∈ ws) = (match FM l with
    | some f => decide (f ∈ ws)
    | none => false) := by
  cases hf : FM l with
  | some f => rw [FM_low l.length l f (Nat.le_refl _) hf]
  | none =>
    rw [decide_eq_false_iff_not]
    intro h
    have := low_FM (toLowerD l) (hw _ h) l rfl
    rw [hf] at this
    cases this
end Go.Proofs.YtmfpgnedeonmiaaDoor.LO
