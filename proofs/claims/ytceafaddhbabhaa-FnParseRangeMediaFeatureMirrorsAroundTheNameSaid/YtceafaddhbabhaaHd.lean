/- The mirrored list, and what its parse must answer. -/
import Derived.Test.YtceafaddhbabhaaHc
import Derived.Deep.AppendLies
namespace Go.Proofs.Ytceafaddhbabhaa.ZT
open Go.RowKit Go.Proofs.Ytceafaddhbabhaa.TB
set_option linter.unusedVariables false
def mK (v f : Nat) (K : Nat → Int) (j : Nat) : Nat → Int := fun i => if i < v then K (j + i) else if i = v then (ck f : Nat) else if wid f = 2 ∧ i = v + 1 then 18 else 29
def mT (v f : Nat) (T : Nat → ByteArray) (j : Nat) : Nat → ByteArray := fun i => if i < v then T (j + i) else if i = v + wid f then T 0 else ⟨#[]⟩
def mL (v f : Nat) (L : Nat → Int) (j : Nat) : Nat → Int := fun i => if i < v then L (j + i) else if i = v + wid f then L 0 else 0
/-- The cells of k tokens. -/
def mls (K : Nat → Int) (T : Nat → ByteArray) (L : Nat → Int) : Nat → List Value
  | 0 => []
  | k + 1 => mls K T L k ++ [.pointer none, .string (T k), .int .i32 (L k), .int .u32 0, .int .u16 0, .int .u8 (K k), .int .u8 0]
theorem mls_len (K : Nat → Int) (T : Nat → ByteArray) (L : Nat → Int) (n : Nat) : (mls K T L n).length = n * 7 := by
  induction n with
  | zero => rfl
  | succ k ih => simp [mls, ih]; omega
theorem mls_get (K : Nat → Int) (T : Nat → ByteArray) (L : Nat → Int) {n i j : Nat} (h : i < n) (hj : j < 7) : (mls K T L n)[i * 7 + j]? = some (tc K T (fun _ => 0) L i j) := by
  induction n with
  | zero => omega
  | succ k ih =>
    have hl := mls_len K T L k
    simp only [mls]
    by_cases e : i = k
    · subst e
      rw [List.getElem?_append_right (by omega), hl, Nat.add_sub_cancel_left]
      rcases seven hj with rfl | rfl | rfl | rfl | rfl | rfl | rfl <;> rfl
    · rw [List.getElem?_append_left (by omega)]
      exact ih (by omega)
/-- The list under construction. -/
def LA (w : World) (K : Nat → Int) (T : Nat → ByteArray) (L : Nat → Int) (k : Nat) (v : Value) (wr : World) : Prop := wr.ownsRow w.heap.size 34 7 v k (mls K T L k) ∧ Below w.heap.size w wr
theorem LA.next {w wx wr w1 : World} {K : Nat → Int} {T : Nat → ByteArray} {L : Nat → Int} {k gg cap : Nat} {v : Value} {o : Obj} (h : LA w K T L k v wx) (hb : Below wx.heap.size wx wr) (hx : wr.ownsRow w.heap.size 34 7 v k (mls K T L k))
    (hown : w1.ownsRow w.heap.size 34 7 (.slice (some ⟨gg, 0, none⟩) (k + 1) cap) (k + 1) (mls K T L k ++ [.pointer none, .string (T k), .int .i32 (L k), .int .u32 0, .int .u16 0, .int .u8 (K k), .int .u8 0]))
    (hgrow : (wr.alloc o).grownBy w1 v.ownBlock) : LA w K T L (k + 1) (.slice (some ⟨gg, 0, none⟩) (k + 1) cap) w1 := by
  have hw : Below w.heap.size w wr := h.2.trans (hb.mono h.2.size)
  refine ⟨hown, hgrow.os.trans hw.os, hgrow.tape.trans hw.tape, hgrow.output.trans hw.output, ?_, fun q hq => ?_⟩
  · have h1 := hgrow.size; simp at h1; have := hw.size; omega
  · have h1 := hw.size
    rw [hgrow.block q (by simp; omega) (fun e => by have := (hx.lt q e.symm).1; omega), Below.heap_alloc wr o q (by omega)]
    exact hw.block q hq
theorem own_below {base e size n : Nat} {w w' : World} {v : Value} {xs : List Value} (h : w.ownsRow base e size v n xs) (hb : Below w.heap.size w w') : w'.ownsRow base e size v n xs := by
  obtain ⟨h1, h2⟩ := h
  refine ⟨h1, ?_⟩
  rcases h2 with h2 | ⟨g, cap, cur, e1, e2, e3, e4⟩
  · exact .inl h2
  · exact .inr ⟨g, cap, cur, e1, e2, (hb.block g (Array.getElem?_eq_some_iff.1 e3).1).trans e3, e4⟩
theorem LA.tap {w wr : World} {K : Nat → Int} {T : Nat → ByteArray} {L : Nat → Int} {k : Nat} {v : Value} (h : LA w K T L k v wr) (hk : 0 < k) : ∃ g c, v = .slice (some ⟨g, 0, none⟩) k c ∧ k ≤ c ∧ c ≤ maxLen ∧ Tap wr g 34 7 k (tc K T (fun _ => 0) L) ∧ w.heap.size ≤ g := by
  obtain ⟨h1, h2⟩ := h
  rcases h1.2 with ⟨-, h0⟩ | ⟨g, cap, cur, rfl, hg, hb, hn, hm, hs, ht⟩
  · omega
  · refine ⟨g, cap, rfl, hn, hm, ⟨cur, hb, by rw [hs]; exact Nat.mul_le_mul_right 7 hn, fun i j hi hj => ?_⟩, hg⟩
    have := mls_get K T L (n := k) hi hj
    rw [← ht, List.getElem?_take, if_pos (row_lt hi hj)] at this
    simpa using this
/-- What the parse of the mirrored list must answer. -/
theorem mirror {g n : Nat} {v j f : Nat} {K : Nat → Int} {T : Nat → ByteArray} {L : Nat → Int} {w w' : World} {e : Ending} (hf : 1 ≤ f ∧ f ≤ 5) (hv : (v = 1 ∧ (K j = 26 ∨ K j = 30)) ∨ (v = 3 ∧ K j = 30 ∧ K (j + 1) = 24 ∧ K (j + 2) = 30)) (hn : n = v + wid f + 1) {N : Nat}
    (h : PP g n N (mK v f K j) (mT v f T j) (fun _ => 0) (mL v f L j) w e w') : ∃ r cb Wf, e = .returned (.tuple #[.pointer (some ⟨r, 0, none⟩), .bool true]) ∧ w.heap.size ≤ r ∧ Tap w' g 34 7 N (tc (mK v f K j) (mT v f T j) Wf (mL v f L j)) ∧ Below g w w' ∧
      Blk w' r 58 #[.slice (some ⟨g, 0, none⟩) v cb, .string (T 0), .slice none 0 0, .int .i32 (L 0), .int .u8 (f : Nat), .int .u8 0] ∧ v ≤ cb := by
  obtain ⟨W1, Wf, hz, ht, hb, hq⟩ := h
  have hwf : wid f = 1 ∨ wid f = 2 := by
    rcases (by omega : f = 1 ∨ f = 2 ∨ f = 3 ∨ f = 4 ∨ f = 5) with rfl | rfl | rfl | rfl | rfl <;> simp [wid]
  have k0 : ∀ i, i < v → mK v f K j i = K (j + i) := fun i hi => if_pos hi
  have kv : mK v f K j v = (ck f : Nat) := by unfold mK; rw [if_neg (by omega), if_pos rfl]
  have kl : mK v f K j (v + wid f) = 29 := by
    unfold mK
    rw [if_neg (by omega), if_neg (by omega), if_neg (by omega)]
  have ke : wid f = 2 → mK v f K j (v + 1) = 18 := fun h2 => by
    unfold mK
    rw [if_neg (by omega), if_neg (by omega), if_pos ⟨h2, rfl⟩]
  have ev : vlen n 0 (mK v f K j) = v := by
    unfold vlen
    rw [if_neg (by omega)]
    rcases hv with ⟨rfl, h | h⟩ | ⟨rfl, h0, h1, h2⟩
    · rw [k0 0 (by omega), Nat.add_zero, if_pos h]
    · rw [k0 0 (by omega), Nat.add_zero, if_neg (by omega), if_neg (by omega), if_pos h, if_neg]
      rintro ⟨-, h3, -⟩
      rw [Nat.zero_add] at h3
      rw [kv] at h3
      rcases (by omega : f = 1 ∨ f = 2 ∨ f = 3 ∨ f = 4 ∨ f = 5) with rfl | rfl | rfl | rfl | rfl <;> simp [ck] at h3
    · rw [k0 0 (by omega), Nat.add_zero, if_neg (by omega), if_neg (by omega), if_pos h0, if_pos ⟨by omega, by rw [Nat.zero_add, k0 1 (by omega)]; exact h1, by rw [Nat.zero_add, k0 2 (by omega)]; exact h2⟩]
  have em : cmpOf (n - v) (sh v (mK v f K j)) (sh v W1) = f := by
    have s0 : sh v (mK v f K j) 0 = (ck f : Nat) := kv
    have sw : wsB (sh v W1) = true := by
      have a : sh v W1 0 = 0 := hz _ rfl
      have b : sh v W1 1 = 0 := hz _ rfl
      unfold wsB
      rw [a, b]
      decide
    unfold cmpOf
    rw [if_neg (by omega), s0]
    rcases (by omega : f = 1 ∨ f = 2 ∨ f = 3 ∨ f = 4 ∨ f = 5) with rfl | rfl | rfl | rfl | rfl
    · simp [ck]
    · have s1 : sh v (mK v 2 K j) 1 = 29 := kl
      simp [ck, s1]
    · have s1 : sh v (mK v 3 K j) 1 = 18 := ke rfl
      simp [ck, s1, sw, wid] at hn ⊢
      omega
    · have s1 : sh v (mK v 4 K j) 1 = 29 := kl
      simp [ck, s1]
    · have s1 : sh v (mK v 5 K j) 1 = 18 := ke rfl
      simp [ck, s1, sw, wid] at hn ⊢
      omega
  have e2 : vlen (n - (v + wid f)) (v + wid f) (mK v f K j) = 1 := by
    unfold vlen
    rw [if_neg (by omega), kl, if_neg (by omega), if_pos rfl]
  have hv0 : v ≠ 0 := by omega
  have hno : ¬ (v = 1 ∧ mK v f K j 0 = 29) := by
    rintro ⟨h1, h2⟩
    rw [k0 0 (by omega), Nat.add_zero] at h2
    omega
  have t0 : mT v f T j (v + wid f) = T 0 := by unfold mT; rw [if_neg (by omega), if_pos rfl]
  have l0 : mL v f L j (v + wid f) = L 0 := by unfold mL; rw [if_neg (by omega), if_pos rfl]
  unfold PQ at hq
  rw [ev, em, e2] at hq
  rcases hq with ⟨-, hq⟩ | ⟨r, he, hr, -, -, hq⟩
  · exact absurd ⟨hv0, by omega, by omega, by omega, .inr ⟨rfl, kl⟩⟩ hq
  · rcases hq with ⟨h1, h2, -⟩ | ⟨-, -, -, -, cb, hbk, hcb⟩ | ⟨h1, -⟩
    · exact absurd ⟨h1, h2⟩ hno
    · rw [t0, l0] at hbk
      exact ⟨r, cb, Wf, he, hr, ht, hb, hbk, hcb⟩
    · omega
end Go.Proofs.Ytceafaddhbabhaa.ZT
