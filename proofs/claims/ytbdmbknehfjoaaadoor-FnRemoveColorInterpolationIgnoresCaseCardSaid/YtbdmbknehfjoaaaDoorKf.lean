/- FnRemoveColorInterpolationIgnoresCase: prefix tables, lists of tokens, appends. -/
import Derived.Test.YtbdmbknehfjoaaaDoorKd
import Derived.Deep.AppendLies
import Derived.Laws.AppendOwn
import Derived.Laws.OwnMore
namespace Go.Proofs.YtbdmbknehfjoaaaDoor.ZT
open Go.RowKit Go.Proofs.YtbdmbknehfjoaaaDoor.TB
set_option linter.unusedVariables false
/-- Block g begins with a table of n rows of S cells. -/
def Tap (w : World) (g : Nat) (t : TypeId) (S n : Nat) (f : Nat → Nat → Value) : Prop :=
  ∃ cs : Array Value, Blk w g t cs ∧ n * S ≤ cs.size ∧ ∀ i j, i < n → j < S → cs[i * S + j]? = some (f i j)
section
variable {w w' : World} {g : Nat} {t : TypeId} {S n : Nat} {f f' : Nat → Nat → Value}
theorem Tap.of (h : Tab w g t S n f) : Tap w g t S n f := by obtain ⟨cs, hb, hs, hc⟩ := h; exact ⟨cs, hb, Nat.le_of_eq hs.symm, hc⟩
theorem Tap.lt (h : Tap w g t S n f) : g < w.heap.size := by obtain ⟨cs, hb, _⟩ := h; exact hb.lt
theorem Tap.cell (h : Tap w g t S n f) {i j : Nat} (hi : i < n) (hj : j < S) : w.cell? ⟨g, i * S + j, none⟩ = some (f i j) := by
  obtain ⟨cs, hb, -, hc⟩ := h
  rw [hb.cell, hc i j hi hj]
theorem Tap.frozen (h : Tap w g t S n f) (o : Nat) : w.frozen? ⟨g, o, none⟩ = false := by obtain ⟨cs, hb, _⟩ := h; exact hb.frozen o
theorem Tap.ext (h : Tap w g t S n f) (e : ∀ i j, i < n → j < S → f i j = f' i j) : Tap w g t S n f' := by
  obtain ⟨cs, hb, hs, hc⟩ := h
  exact ⟨cs, hb, hs, fun i j hi hj => by rw [hc i j hi hj, e i j hi hj]⟩
theorem Tap.drewN (h : Tap w g t S n f) (k : Nat) : Tap (w.drewN k) g t S n f := h
theorem Tap.alloc (h : Tap w g t S n f) (o : Obj) : Tap (w.alloc o) g t S n f := by
  obtain ⟨cs, hb, h2⟩ := h; exact ⟨cs, hb.alloc o, h2⟩
theorem Tap.far (h : Tap w g t S n f) {p : Addr} (hp : g ≠ p.block) (u : Value) : Tap (w.setCell p u) g t S n f := by
  obtain ⟨cs, hb, h2⟩ := h; exact ⟨cs, hb.far hp u, h2⟩
theorem Tap.below {B : Nat} (h : Tap w g t S n f) (hb : Below B w w') (hg : g < B) : Tap w' g t S n f := by
  obtain ⟨cs, hk, h2⟩ := h; exact ⟨cs, hk.below hb hg, h2⟩
theorem Tap.kept (h : Tap w g t S n f) (hb : w'.heap[g]? = w.heap[g]?) : Tap w' g t S n f := by
  obtain ⟨cs, hk, h2⟩ := h; exact ⟨cs, hb.trans hk, h2⟩
theorem Tap.set (h : Tap w g t S n f) {i j : Nat} (hi : i < n) (hj : j < S) (v : Value) : Tap (w.setCell ⟨g, i * S + j, none⟩ v) g t S n (upd f i j v) := by
  obtain ⟨cs, hb, hs, hc⟩ := h
  refine ⟨_, hb.set_ _ v, by simpa using hs, fun a b ha hb' => ?_⟩
  rw [Array.getElem?_setIfInBounds]
  by_cases e : i * S + j = a * S + b
  · obtain ⟨rfl, rfl⟩ := row_inj hj hb' e
    have := row_lt hi hj
    have h3 : i * S + j < cs.size := by omega
    simp [upd, h3]
  · rw [if_neg e, hc a b ha hb']
    unfold upd
    rw [if_neg]
    rintro ⟨rfl, rfl⟩
    exact e rfl
end
/-- A token's cells; the cells of m tokens. -/
def tkl (K : Nat → Int) (T : Nat → ByteArray) (Wf : Nat → Int) (i : Nat) : List Value := [.pointer none, .string (T i), .int .i32 0, .int .u32 0, .int .u16 0, .int .u8 (K i), .int .u8 (Wf i)]
def tl (K : Nat → Int) (T : Nat → ByteArray) (Wf : Nat → Int) (a : Nat) : Nat → List Value
  | 0 => []
  | m + 1 => tl K T Wf a m ++ tkl K T Wf (a + m)
section
variable {K : Nat → Int} {T : Nat → ByteArray} {Wf : Nat → Int} {a : Nat}
theorem tkl_len (i : Nat) : (tkl K T Wf i).length = 7 := rfl
theorem tl_len : ∀ m, (tl K T Wf a m).length = m * 7
  | 0 => rfl
  | m + 1 => by rw [tl, List.length_append, tl_len m, tkl_len]; omega
theorem tl_at : ∀ (m i q : Nat), i < m → q < 7 → (tl K T Wf a m)[i * 7 + q]? = some (tc K T Wf (fun _ => 0) (a + i) q)
  | 0, i, q, hi, _ => absurd hi (by omega)
  | m + 1, i, q, hi, hq => by
    rw [tl]
    rcases Nat.lt_or_eq_of_le (Nat.le_of_lt_succ hi) with h | h
    · rw [List.getElem?_append_left (by rw [tl_len]; omega)]
      exact tl_at m i q h hq
    · subst h
      rw [List.getElem?_append_right (by rw [tl_len]; omega), tl_len, show i * 7 + q - i * 7 = q by omega]
      rcases seven hq with rfl | rfl | rfl | rfl | rfl | rfl | rfl <;> rfl
theorem tl_one : ∀ m, ∀ u ∈ tl K T Wf a m, u.oneCell' = true
  | 0, u, h => by simp [tl] at h
  | m + 1, u, h => by
    rw [tl, List.mem_append] at h
    rcases h with h | h
    · exact tl_one m u h
    · simp only [tkl, List.mem_cons, List.not_mem_nil, or_false] at h
      rcases h with rfl | rfl | rfl | rfl | rfl | rfl | rfl <;> rfl
theorem tl_cells {w : World} {b o n m : Nat} (h : ∀ i j, i < n → j < 7 → w.cell? ⟨b, o + i * 7 + j, none⟩ = some (tc K T Wf (fun _ => 0) i j)) (ham : a + m ≤ n) (x : Nat) (hx : x = o + a * 7) : ∀ j u, (tl K T Wf a m)[j]? = some u → w.cell? ((⟨b, x, none⟩ : Addr).add j) = some u := by
  intro j u hj
  have hl := (List.getElem?_eq_some_iff.1 hj).1
  rw [tl_len] at hl
  have e := tl_at (K := K) (T := T) (Wf := Wf) (a := a) m (j / 7) (j % 7) (by omega) (by omega)
  rw [show j / 7 * 7 + j % 7 = j by omega, hj] at e
  have hc := h (a + j / 7) (j % 7) (by omega) (by omega)
  rw [Addr.add_mid, e, ← hc, hx]
  congr 2
  omega
end
theorem run_append_nothing {P : Program} (w : World) (t ty e : TypeId) (i : TypeInfo) (ht : P.underlying t = some (.slice e)) (hi : P.info? e = some i) (g n c : Nat) (hc : n ≤ c) (a : Option Addr) (c' : Nat) :
    (Builtin.append_ #[t, t] ty #[.slice (some ⟨g, 0, none⟩) n c, .slice a 0 c']).run P w = .ok (.slice (some ⟨g, 0, none⟩) n c) w := by
  cases a with
  | none => simp [Builtin.append_, run_underlying ht, sizeOf, typeInfo, hi, Builtin.lenOf, Builtin.firstCells, hc, storeCells]
  | some a => simp [Builtin.append_, run_underlying ht, sizeOf, typeInfo, hi, Builtin.lenOf, Builtin.firstCells, loadCells, loadCellsFrom, hc, storeCells]
theorem step_run {P : Program} {ops : Array Oper} {o : Oper} {a : Act} {w : World} {K : Act → World → Prop} {Q : Exit → Act → World → Prop} {E : Prop}
    (hg : o.guard = none) (s x : Operand) (t : TypeId) (hop : o.op = Op.call { callee := Callee.builtin Builtin.append, args := #[s, x], argTypes := #[t, t] })
    (u v r : Value) (w' : World) (hs : a.eval s = u) (hx : a.eval x = v) (hrun : (Builtin.append_ #[t, t] o.type #[u, v]).run P w = .ok r w') (hK : K (a.put o.dst r) w') :
    if Region.wanted o (yielded ops a.tmps) = true then Oper.wp P o a w K Q else E := by
  have hw : Region.wanted o (yielded ops a.tmps) = true := by simp [Region.wanted, hg]
  rw [if_pos hw]
  unfold Oper.wp
  simp [execOp, hop, resolve, invoke, builtin, hs, hx, hrun, Result.andThen]
  exact hK
/-- What is owned begins with a table. -/
theorem Tap.own {w : World} {base g n cap : Nat} {xs : List Value} {f : Nat → Nat → Value} (h : w.ownsRow base 42 7 (.slice (some ⟨g, 0, none⟩) n cap) n xs) (hf : ∀ i j, i < n → j < 7 → xs[i * 7 + j]? = some (f i j)) : Tap w g 42 7 n f ∧ n ≤ cap := by
  rcases h.2 with ⟨h', _⟩ | ⟨g', cap', cur, h', _, hg, hnc, _, hs, htake⟩
  · simp at h'
  · simp only [Value.slice.injEq, Option.some.injEq, Addr.mk.injEq, and_true, true_and] at h'
    obtain ⟨rfl, rfl⟩ := h'
    refine ⟨⟨cur, hg, by rw [hs]; exact Nat.mul_le_mul_right 7 hnc, fun i j hi hj => ?_⟩, hnc⟩
    have h1 := hf i j hi hj
    rw [← htake, List.getElem?_take] at h1
    split at h1
    · simpa using h1
    · cases h1
/-- The end: whitespace at both ends. -/
theorem Tap.ends {w : World} {g m k d : Nat} {K : Nat → Int} {T : Nat → ByteArray} {Wf : Nat → Int} (h : Tap w g 42 7 m (fun i j => tc K T Wf (fun _ => 0) (skp k d i) j)) (hm : 0 < m) :
    Tap ((w.setCell ⟨g, 6, none⟩ (.int .u8 (bits .and .u8 (Wf (skp k d 0)) 254))).setCell ⟨g, (m - 1) * 7 + 6, none⟩ (.int .u8 (bits .and .u8 (if m = 1 then bits .and .u8 (Wf (skp k d 0)) 254 else Wf (skp k d (m - 1))) 253))) g 42 7 m
      (tc (fun j => K (skp k d j)) (fun j => T (skp k d j)) (wsR Wf k d m) (fun _ => 0)) := by
  have h1 := h.set (i := 0) (j := 6) hm (by omega) (.int .u8 (bits .and .u8 (Wf (skp k d 0)) 254))
  rw [Nat.zero_mul, Nat.zero_add] at h1
  refine (h1.set (i := m - 1) (j := 6) (by omega) (by omega) _).ext fun i j hi hj => ?_
  unfold upd
  rcases seven hj with rfl | rfl | rfl | rfl | rfl | rfl | rfl
  case inr.inr.inr.inr.inr.inr =>
    by_cases e : i = m - 1
    · subst e
      rw [if_pos ⟨rfl, rfl⟩]
      show _ = Value.int .u8 (wsR Wf k d m (m - 1))
      unfold wsR
      have hh : m - 1 + 1 = m := by omega
      simp only [hh, if_true]
      by_cases h1 : m = 1
      · subst h1; rfl
      · rw [if_neg h1, if_neg (by omega)]
    · rw [if_neg (fun h => e h.1)]
      show (if i = 0 ∧ (6 : Nat) = 6 then _ else _) = Value.int .u8 (wsR Wf k d m i)
      unfold wsR
      simp only [show ¬ i + 1 = m by omega, if_false]
      by_cases h0 : i = 0
      · subst h0
        rw [if_pos ⟨rfl, by trivial⟩, if_pos rfl]
      · rw [if_neg (fun h => h0 h.1), if_neg h0]
        rfl
  all_goals
    rw [if_neg (by rintro ⟨-, h⟩; cases h)]
    show (if i = 0 ∧ _ = 6 then _ else _) = _
    rw [if_neg (by rintro ⟨-, h⟩; cases h)]
    rfl
end Go.Proofs.YtbdmbknehfjoaaaDoor.ZT
