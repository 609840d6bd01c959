/- Names and their numbers, as a pass over a list of tokens gives them. -/
import Derived.Test.YtmfpgnedeonmiaaDoorSp
import Derived.Test.YtmfpgnedeonmiaaDoorTab
namespace Go.Proofs.YtmfpgnedeonmiaaDoor.SY
open Go Go.RowKit Go.Lib Go.Proofs.YtmfpgnedeonmiaaDoor.TB
set_option linter.unusedVariables false
/-- The table after the first i tokens. -/
def Lt (c : Nat → Bool) (T : Nat → ByteArray) : Nat → List Ent
  | 0 => []
  | i + 1 => if c i then tick (Lt c T i) (T i) else Lt c T i
def Kt (c : Nat → Bool) (K : Nat → Int) (i : Nat) : Int := if c i then 39 else K i
def Pt (c : Nat → Bool) (T : Nat → ByteArray) (i : Nat) : Int := if c i then (spot (Lt c T i) (T i) : Int) else 0
theorem Lt_small (c : Nat → Bool) (T : Nat → ByteArray) : ∀ i, Small (Lt c T i) i
  | 0 => Small.nil
  | i + 1 => by
    simp only [Lt]
    split
    · exact (Lt_small c T i).tick _
    · exact (Lt_small c T i).mono (by omega)
theorem Lt_yes {c : Nat → Bool} {T : Nat → ByteArray} {i : Nat} (h : c i = true) : Lt c T (i + 1) = tick (Lt c T i) (T i) := by simp [Lt, h]
theorem Lt_no {c : Nat → Bool} {T : Nat → ByteArray} {i : Nat} (h : c i = false) : Lt c T (i + 1) = Lt c T i := by simp [Lt, h]
theorem Lt_congr {c c' : Nat → Bool} {T T' : Nat → ByteArray} : ∀ i, (∀ j, j < i → c j = c' j ∧ T j = T' j) → Lt c T i = Lt c' T' i
  | 0, _ => rfl
  | i + 1, h => by
    simp only [Lt]
    rw [Lt_congr i (fun j hj => h j (by omega)), (h i (by omega)).1, (h i (by omega)).2]
theorem spot_le (L : List Ent) (nm : ByteArray) : spot L nm ≤ L.length := by
  induction L with
  | nil => exact Nat.le_refl _
  | cons a L ih => simp only [spot, List.length_cons]; split <;> omega
theorem spot_ne (L : List Ent) (nm : ByteArray) : ∀ (j : Nat) (e : Ent), j < spot L nm → L[j]? = some e → e.nm ≠ nm := by
  induction L with
  | nil => intro j e h; simp [spot] at h
  | cons a L ih =>
    intro j e h he
    simp only [spot] at h
    split at h
    · omega
    · rename_i hn
      cases j with
      | zero => simp at he; subst he; exact hn
      | succ j => exact ih j e (by omega) (by simpa using he)
theorem spot_at (L : List Ent) (nm : ByteArray) (h : spot L nm < L.length) : ∃ e, L[spot L nm]? = some e ∧ e.nm = nm ∧ tick L nm = L.set (spot L nm) { e with uses := e.uses + 1 } := by
  by_cases hex : ∃ e ∈ L, e.nm = nm
  · obtain ⟨i, e0, h1, h2, -, h3, h4⟩ := tick_old L nm hex
    exact ⟨e0, by rw [h4]; exact h1, h2, by rw [h4]; exact h3⟩
  · have := (tick_new L nm (fun e he hn => hex ⟨e, he, hn⟩)).2
    omega
theorem spot_end (L : List Ent) (nm : ByteArray) (h : spot L nm = L.length) : tick L nm = L ++ [⟨nm, 0, 1⟩] := by
  by_cases hex : ∃ e ∈ L, e.nm = nm
  · obtain ⟨i, e0, h1, h2, -, h3, h4⟩ := tick_old L nm hex
    have := (List.getElem?_eq_some_iff.1 h1).1
    omega
  · exact (tick_new L nm (fun e he hn => hex ⟨e, he, hn⟩)).1
/-- The names, and how often each is used, as lists of cells. -/
def nmv (L : List Ent) : List Value := L.map fun e => .string e.nm
def usv (L : List Ent) : List Value := L.map fun e => .int .u32 (e.uses : Int)
theorem nmv_len (L : List Ent) : (nmv L).length = L.length := by simp [nmv]
theorem usv_len (L : List Ent) : (usv L).length = L.length := by simp [usv]
theorem nmv_at {L : List Ent} {j : Nat} {e : Ent} (h : L[j]? = some e) : (nmv L)[j]? = some (.string e.nm) := by simp [nmv, h]
theorem usv_at {L : List Ent} {j : Nat} {e : Ent} (h : L[j]? = some e) : (usv L)[j]? = some (.int .u32 (e.uses : Int)) := by simp [usv, h]
theorem nmv_new (L : List Ent) (nm : ByteArray) (h : spot L nm = L.length) : nmv L ++ [Value.string nm] = nmv (tick L nm) := by rw [spot_end L nm h]; simp [nmv]
theorem usv_new (L : List Ent) (nm : ByteArray) (h : spot L nm = L.length) : (usv L ++ [Value.int .u32 0]).set L.length (.int .u32 1) = usv (tick L nm) := by
  rw [spot_end L nm h]
  have : L.length = (usv L).length := (usv_len L).symm
  rw [this, List.set_append_right _ _ (Nat.le_refl _)]
  simp [usv]
theorem nmv_old (L : List Ent) (nm : ByteArray) (h : spot L nm < L.length) : nmv (tick L nm) = nmv L := by
  obtain ⟨e, h1, h2, h3⟩ := spot_at L nm h
  rw [h3, nmv, nmv, List.map_set]
  refine List.ext_getElem? fun j => ?_
  rw [List.getElem?_set]
  split
  · rename_i hj
    subst hj
    simp [h1]
    exact h
  · rfl
theorem usv_old (L : List Ent) (nm : ByteArray) (e : Ent) (h : L[spot L nm]? = some e) : (usv L).set (spot L nm) (.int .u32 ((e.uses : Int) + 1)) = usv (tick L nm) := by
  obtain ⟨e', h1, h2, h3⟩ := spot_at L nm (List.getElem?_eq_some_iff.1 h).1
  rw [h] at h1
  cases h1
  rw [h3, usv, usv, List.map_set]
  congr 1
theorem tick_len_new (L : List Ent) (nm : ByteArray) (h : spot L nm = L.length) : (tick L nm).length = L.length + 1 := by rw [spot_end L nm h]; simp
theorem tick_len_old (L : List Ent) (nm : ByteArray) (h : spot L nm < L.length) : (tick L nm).length = L.length := by
  obtain ⟨e, h1, h2, h3⟩ := spot_at L nm h
  rw [h3, List.length_set]
/-- The cells of a row of tokens. -/
def tkc (K : Nat → Int) (T : Nat → ByteArray) (P : Nat → Int) : Nat → Nat → Value := fun i j => #[Value.pointer none, .string (T i), .int .i32 0, .int .u32 (P i), .int .u16 0, .int .u8 (K i), .int .u8 0][j]!
/-- Tokens of which the first k have been passed. -/
def tkp (c : Nat → Bool) (K : Nat → Int) (T : Nat → ByteArray) (k : Nat) : Nat → Nat → Value := fun i j => if i < k then tkc (Kt c K) T (Pt c T) i j else tkc K T (fun _ => 0) i j
abbrev TT : TypeId := 48
theorem seven {j : Nat} (h : j < 7) : j = 0 ∨ j = 1 ∨ j = 2 ∨ j = 3 ∨ j = 4 ∨ j = 5 ∨ j = 6 := by omega
theorem tkp_zero (c : Nat → Bool) (K : Nat → Int) (T : Nat → ByteArray) : tkp c K T 0 = tkc K T (fun _ => 0) := by funext i j; simp [tkp]
theorem tkp_no {w : World} {g n k : Nat} {c : Nat → Bool} {K : Nat → Int} {T : Nat → ByteArray} (h : Tab w g TT 7 n (tkp c K T k)) (hc : c k = false) : Tab w g TT 7 n (tkp c K T (k + 1)) := by
  refine h.ext fun i j hi hj => ?_
  unfold tkp
  by_cases e : i = k
  · subst e
    rw [if_neg (by omega), if_pos (by omega)]
    simp [tkc, Kt, Pt, hc]
  · have e1 : (i < k + 1) = (i < k) := by simp; omega
    simp [e1]
theorem tkp_yes {w : World} {g n k : Nat} {c : Nat → Bool} {K : Nat → Int} {T : Nat → ByteArray} (h : Tab w g TT 7 n (upd (upd (tkp c K T k) k 5 (.int .u8 39)) k 3 (.int .u32 (spot (Lt c T k) (T k) : Int)))) (hc : c k = true) : Tab w g TT 7 n (tkp c K T (k + 1)) := by
  refine h.ext fun i j hi hj => ?_
  unfold tkp
  by_cases e : i = k
  · subst e
    rcases seven hj with rfl | rfl | rfl | rfl | rfl | rfl | rfl <;> simp [upd, tkc, Kt, Pt, hc]
  · have e1 : (i < k + 1) = (i < k) := by simp; omega
    simp [upd, e, e1]
end Go.Proofs.YtmfpgnedeonmiaaDoor.SY
