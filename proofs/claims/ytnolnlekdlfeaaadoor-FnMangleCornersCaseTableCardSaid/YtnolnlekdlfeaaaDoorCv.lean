/- The tokens of two quads behind each other. -/
import Derived.Test.YtnolnlekdlfeaaaDoorCs
import Derived.Deep.AppendLies
import Derived.OwnWalk
namespace Go.Proofs.YtnolnlekdlfeaaaDoor.ZT
open Go.RowKit Go.Proofs.YtnolnlekdlfeaaaDoor.TB
set_option linter.unusedVariables false
/-- A token's cells; the cells of m tokens. -/
def tkl (K : Nat → Int) (T : Nat → ByteArray) (Wf : Nat → Int) (i : Nat) : List Value := [.pointer none, .string (T i), .int .i32 0, .int .u32 0, .int .u16 0, .int .u8 (K i), .int .u8 (Wf i)]
def tl (K : Nat → Int) (T : Nat → ByteArray) (Wf : Nat → Int) (a : Nat) : Nat → List Value
  | 0 => []
  | m + 1 => tl K T Wf a m ++ tkl K T Wf (a + m)
section
variable {K : Nat → Int} {T : Nat → ByteArray} {Wf : Nat → Int} {a : Nat}
theorem tkl_len (i : Nat) : (tkl K T Wf i).length = 7 := rfl
theorem tl_len : ∀ m, (tl K T Wf a m).length = m * 7
  | 0 => rfl
  | m + 1 => by rw [tl, List.length_append, tl_len m, tkl_len]; omega
theorem tl_at : ∀ (m i q : Nat), i < m → q < 7 → (tl K T Wf a m)[i * 7 + q]? = some (tc K T Wf (fun _ => 0) (a + i) q)
  | 0, i, q, hi, _ => absurd hi (by omega)
  | m + 1, i, q, hi, hq => by
    rw [tl]
    rcases Nat.lt_or_eq_of_le (Nat.le_of_lt_succ hi) with h | h
    · rw [List.getElem?_append_left (by rw [tl_len]; omega)]
      exact tl_at m i q h hq
    · subst h
      rw [List.getElem?_append_right (by rw [tl_len]; omega), tl_len, show i * 7 + q - i * 7 = q by omega]
      rcases seven hq with rfl | rfl | rfl | rfl | rfl | rfl | rfl <;> rfl
theorem tl_one : ∀ m, ∀ u ∈ tl K T Wf a m, u.oneCell' = true
  | 0, u, h => by simp [tl] at h
  | m + 1, u, h => by
    rw [tl, List.mem_append] at h
    rcases h with h | h
    · exact tl_one m u h
    · simp only [tkl, List.mem_cons, List.not_mem_nil, or_false] at h
      rcases h with rfl | rfl | rfl | rfl | rfl | rfl | rfl <;> rfl
theorem tl_cells {w : World} {b o n m : Nat} (h : ∀ i j, i < n → j < 7 → w.cell? ⟨b, o + i * 7 + j, none⟩ = some (tc K T Wf (fun _ => 0) i j)) (ham : a + m ≤ n) (x : Nat) (hx : x = o + a * 7) : ∀ j u, (tl K T Wf a m)[j]? = some u → w.cell? ((⟨b, x, none⟩ : Addr).add j) = some u := by
  intro j u hj
  have hl := (List.getElem?_eq_some_iff.1 hj).1
  rw [tl_len] at hl
  have e := tl_at (K := K) (T := T) (Wf := Wf) (a := a) m (j / 7) (j % 7) (by omega) (by omega)
  rw [show j / 7 * 7 + j % 7 = j by omega, hj] at e
  have hc := h (a + j / 7) (j % 7) (by omega) (by omega)
  rw [Addr.add_mid, e, ← hc, hx]
  congr 2
  omega
end
theorem info_tok : (Tryd.prog.info? 47).map (fun i => (i.zero, i.size, i.bytes)) = some (some (.agg #[.pointer none, .string ⟨#[]⟩, .int .i32 0, .int .u32 0, .int .u16 0, .int .u8 0, .int .u8 0]), 7, 40) := by kernel_rfl
/-- A table of four tokens, of which m are looked at, is owned. -/
theorem tab_own {w : World} {g base m : Nat} {K : Nat → Int} {T : Nat → ByteArray} {Wf : Nat → Int} (h : Tab w g 47 7 4 (tc K T Wf (fun _ => 0))) (hm : m ≤ 4) (hb : base ≤ g) :
    w.ownsRow base 47 7 (.slice (some ⟨g, 0, none⟩) m 4) m (tl K T Wf 0 m) := by
  obtain ⟨cs, hk, hs, hc⟩ := h
  refine ⟨tl_len m, .inr ⟨g, 4, cs, rfl, hb, hk, hm, by unfold maxLen; omega, hs, ?_⟩⟩
  apply List.ext_getElem?
  intro p
  rw [List.getElem?_take]
  by_cases hp : p < m * 7
  · rw [if_pos hp]
    have h1 := hc (p / 7) (p % 7) (by omega) (by omega)
    rw [show p / 7 * 7 + p % 7 = p by omega] at h1
    have h2 := tl_at (K := K) (T := T) (Wf := Wf) (a := 0) m (p / 7) (p % 7) (by omega) (by omega)
    rw [show p / 7 * 7 + p % 7 = p by omega, Nat.zero_add] at h2
    rw [h2, ← h1]
    simp
  · rw [if_neg hp, List.getElem?_eq_none (by rw [tl_len]; omega)]
theorem own_TR {w : World} {base g n cap : Nat} {xs : List Value} {f : Nat → Nat → Value} (h : w.ownsRow base 47 7 (.slice (some ⟨g, 0, none⟩) n cap) n xs) (hf : ∀ i j, i < n → j < 7 → xs[i * 7 + j]? = some (f i j)) : TR w (some ⟨g, 0, none⟩) n f := by
  intro hn
  rcases h.2 with ⟨h', _⟩ | ⟨g', cap', cur, h', _, hg, hnc, _, hs, htake⟩
  · simp at h'
  · simp only [Value.slice.injEq, Option.some.injEq, Addr.mk.injEq, and_true, true_and] at h'
    obtain ⟨rfl, rfl⟩ := h'
    have hk : Blk w g 47 cur := hg
    refine ⟨g, 0, rfl, hk.lt, fun i j hi hj => ?_⟩
    have h1 := hf i j hi hj
    rw [← htake, List.getElem?_take] at h1
    split at h1
    · rw [Nat.zero_add, hk.cell]
      simpa using h1
    · cases h1
/-- The kinds, the texts, the whitespace of what stands behind each other: c tokens, a slash, more tokens. -/
def jn {α : Type} (c : Nat) (x : Nat → α) (s : α) (y : Nat → α) (i : Nat) : α := if i < c then x i else if i = c then s else y (i - (c + 1))
theorem two_at {c c2 : Nat} {K K2 W W2 : Nat → Int} {T T2 : Nat → ByteArray} {ks ws : Int} {ts : ByteArray} {i j : Nat} (hi : i < c + 1 + c2) (hj : j < 7) :
    ((tl K T W 0 c ++ [.pointer none, .string ts, .int .i32 0, .int .u32 0, .int .u16 0, .int .u8 ks, .int .u8 ws]) ++ tl K2 T2 W2 0 c2)[i * 7 + j]? = some (tc (jn c K ks K2) (jn c T ts T2) (jn c W ws W2) (fun _ => 0) i j) := by
  by_cases h1 : i < c
  · rw [List.getElem?_append_left (by rw [List.length_append, tl_len]; simp; omega), List.getElem?_append_left (by rw [tl_len]; omega), tl_at c i j h1 hj, Nat.zero_add]
    unfold tc jn
    simp only [h1, if_true]
  · by_cases h2 : i = c
    · subst h2
      rw [List.getElem?_append_left (by rw [List.length_append, tl_len]; simp; omega), List.getElem?_append_right (by rw [tl_len]; omega), tl_len, show i * 7 + j - i * 7 = j by omega]
      unfold tc jn
      simp only [Nat.lt_irrefl, if_false, if_true]
      rcases seven hj with rfl | rfl | rfl | rfl | rfl | rfl | rfl <;> rfl
    · rw [List.getElem?_append_right (by rw [List.length_append, tl_len]; simp; omega), List.length_append, tl_len]
      have e : i * 7 + j - (c * 7 + [Value.pointer none, .string ts, .int .i32 0, .int .u32 0, .int .u16 0, .int .u8 ks, .int .u8 ws].length) = (i - (c + 1)) * 7 + j := by
        simp only [List.length_cons, List.length_nil]
        omega
      rw [e, tl_at c2 (i - (c + 1)) j (by omega) hj, Nat.zero_add]
      unfold tc jn
      simp only [h1, h2, if_false]
theorem grown_below {B : Nat} {w w' : World} {row : Option Nat} (h : w.grownBy w' row) (hB : B ≤ w.heap.size) (hr : ∀ g, row = some g → B ≤ g) : Below B w w' :=
  ⟨h.os, h.tape, h.output, h.size, fun k hk => h.block k (Nat.lt_of_lt_of_le hk hB) (fun e => by have := hr k e.symm; omega)⟩
theorem tok_one (t : ByteArray) (l : Int) (a b : Int) : ∀ u ∈ [Value.pointer none, .string t, .int .i32 l, .int .u32 0, .int .u16 0, .int .u8 a, .int .u8 b], u.oneCell' = true := by
  intro u h
  simp only [List.mem_cons, List.not_mem_nil, or_false] at h
  rcases h with rfl | rfl | rfl | rfl | rfl | rfl | rfl <;> rfl
theorem cm_le (K : Nat → Int) (T : Nat → ByteArray) : 1 ≤ cm K T ∧ cm K T ≤ 4 := by
  unfold cm
  split
  · split
    · split <;> omega
    · omega
  · omega
/-- Two appends: what stands behind each other, in one block. -/
theorem two_end {w0 W5 w6 w7 : World} {tg g1 g2 c c2 cap : Nat} {K K2 W W2 : Nat → Int} {T T2 : Nat → ByteArray} {ks ws : Int} {ts : ByteArray} {ob : Obj} (hb : Below w0.heap.size w0 W5) (htg : w0.heap.size ≤ tg)
    (h1 : (W5.alloc ob).grownBy w6 (some tg)) (h2 : some tg = some g1 ∨ g1 = W5.heap.size + 1) (h3 : w6.grownBy w7 (some g1)) (h4 : some g1 = some g2 ∨ g2 = w6.heap.size)
    (h5 : w7.ownsRow w0.heap.size 47 7 (.slice (some ⟨g2, 0, none⟩) (c + 1 + c2) cap) (c + 1 + c2) ((tl K T W 0 c ++ [.pointer none, .string ts, .int .i32 0, .int .u32 0, .int .u16 0, .int .u8 ks, .int .u8 ws]) ++ tl K2 T2 W2 0 c2)) :
    TR w7 (some ⟨g2, 0, none⟩) (c + 1 + c2) (tc (jn c K ks K2) (jn c T ts T2) (jn c W ws W2) (fun _ => 0)) ∧ Below w0.heap.size w0 w7 ∧ w0.heap.size ≤ g2 := by
  have s0 := hb.size
  have s1 : (W5.alloc ob).heap.size = W5.heap.size + 1 := by simp
  have hg1 : w0.heap.size ≤ g1 := by
    rcases h2 with h | h
    · injection h with h; omega
    · omega
  have b1 : Below w0.heap.size w0 w6 := (hb.alloc s0 ob).trans (grown_below h1 (by omega) (fun g hg => by injection hg with hg; omega))
  have b2 : Below w0.heap.size w0 w7 := b1.trans (grown_below h3 b1.size (fun g hg => by injection hg with hg; omega))
  refine ⟨own_TR h5 (fun i j hi hj => two_at hi hj), b2, ?_⟩
  rcases h4 with h | h
  · injection h with h; omega
  · have := b1.size; omega
/-- The second quad is as it was behind the first append. -/
theorem news_far {W5 w6 : World} {tg tg2 : Nat} {ob : Obj} {l : List Value} (hn : ∀ j u, l[j]? = some u → W5.cell? ((⟨tg2, 0, none⟩ : Addr).add j) = some u) (hlt : tg2 < W5.heap.size) (hne : tg2 ≠ tg) (h1 : (W5.alloc ob).grownBy w6 (some tg)) :
    ∀ j u, l[j]? = some u → w6.cell? ((⟨tg2, 0, none⟩ : Addr).add j) = some u := fun j u hj => by
  have h := hn j u hj
  rw [Addr.add_mid] at h ⊢
  rw [h1.cell_far ⟨tg2, 0 + j, none⟩ (by simp; omega) (by simpa using hne), ← h]
  exact (((Below.refl W5.heap.size W5).alloc (Nat.le_refl _) ob).cell (p := ⟨tg2, 0 + j, none⟩) hlt)
end Go.Proofs.YtnolnlekdlfeaaaDoor.ZT
