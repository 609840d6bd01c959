/- A slice of one-cell elements that a call has made and appends to, whatever the type of its block. Of no program. -/
import Derived.Below
import Derived.Laws.AppendOwn
import Derived.Laws.OwnMore
import Derived.WalkKit
import Derived.Deep.Draws
namespace Go.Proofs.YtajkdjheoefbcaaFmt.OW
open Go.RowKit
/-- The slice v holds the list xs, in a block from base on. -/
def Own (w : World) (base : Nat) (v : Value) (xs : List Value) : Prop :=
  ∃ g cap cur ty, v = .slice (some ⟨g, 0, none⟩) xs.length cap ∧ base ≤ g ∧ w.heap[g]? = some (.cells cur ty (0, 0)) ∧ xs.length ≤ cap ∧ cap ≤ maxLen ∧ cur.size = cap ∧ cur.toList.take xs.length = xs
section
variable {w w' : World} {base : Nat} {v : Value} {xs : List Value}
theorem Own.lt (h : Own w base v xs) : ∀ k, v.ownBlock = some k → base ≤ k ∧ k < w.heap.size := by
  obtain ⟨g, cap, cur, ty, rfl, hb, hg, _⟩ := h
  intro k hk
  simp [Value.ownBlock] at hk
  subst hk
  exact ⟨hb, (Array.getElem?_eq_some_iff.1 hg).1⟩
theorem Own.base_le (h : Own w base v xs) : base ≤ w.heap.size := by
  obtain ⟨g, cap, cur, ty, rfl, hb, hg, _⟩ := h
  have := (Array.getElem?_eq_some_iff.1 hg).1
  omega
theorem Own.kept (h : Own w base v xs) (hk : ∀ g, base ≤ g → g < w.heap.size → w'.heap[g]? = w.heap[g]?) : Own w' base v xs := by
  obtain ⟨g, cap, cur, ty, rfl, hb, hg, rest⟩ := h
  exact ⟨g, cap, cur, ty, rfl, hb, (hk g hb (Array.getElem?_eq_some_iff.1 hg).1).trans hg, rest⟩
theorem Own.below (h : Own w base v xs) (hb : Below w.heap.size w w') : Own w' base v xs := h.kept fun g _ hg => hb.block g hg
theorem Own.alloc (h : Own w base v xs) (o : Obj) : Own (w.alloc o) base v xs := h.kept fun g _ hg => Below.heap_alloc w o g hg
theorem Own.drew (h : Own w base v xs) : Own w.drew base v xs := h
theorem Own.drewN (h : Own w base v xs) (n : Nat) : Own (w.drewN n) base v xs := h
theorem Own.far (h : Own w base v xs) {p : Addr} (hp : p.block < base) (u : Value) : Own (w.setCell p u) base v xs := h.kept fun g hg _ => Below.heap_setCell w p u g (by omega)
theorem Own.away (h : Own w base v xs) {p : Addr} (hp : v.ownBlock ≠ some p.block) (u : Value) : Own (w.setCell p u) base v xs := by
  obtain ⟨g, cap, cur, ty, rfl, hb, hg, rest⟩ := h
  refine ⟨g, cap, cur, ty, rfl, hb, (Below.heap_setCell w p u g (fun e => hp (by simp [Value.ownBlock, e]))).trans hg, rest⟩
/-- Its value, and its cells. -/
theorem Own.cells (h : Own w base v xs) : ∃ g cap, v = .slice (some ⟨g, 0, none⟩) xs.length cap ∧ base ≤ g ∧ g < w.heap.size ∧ xs.length ≤ cap ∧ cap ≤ maxLen ∧ (∀ j u, xs[j]? = some u → w.cell? ⟨g, j, none⟩ = some u) := by
  obtain ⟨g, cap, cur, ty, rfl, hb, hg, h1, h2, h3, h4⟩ := h
  refine ⟨g, cap, rfl, hb, (Array.getElem?_eq_some_iff.1 hg).1, h1, h2, fun j u hu => ?_⟩
  rw [cell_of_row w g j cur ty (0, 0) hg]
  rw [← h4, List.getElem?_take] at hu
  split at hu
  · simpa using hu
  · cases hu
/-- What 'make' or a new array lays. -/
theorem Own.made (w : World) (cur : Array Value) (ty : TypeId) (hb : base ≤ w.heap.size) (hm : cur.size ≤ maxLen) :
    Own (w.alloc (.cells cur ty)) base (.slice (some ⟨w.heap.size, 0, none⟩) 0 cur.size) [] :=
  ⟨w.heap.size, cur.size, cur, ty, rfl, hb, heap_alloc_new w _, Nat.zero_le _, hm, rfl, by simp⟩
/-- The last element is cut off. -/
theorem Own.pop {u : Value} (h : Own w base v (xs ++ [u])) : ∃ g cap, v = .slice (some ⟨g, 0, none⟩) (xs.length + 1) cap ∧ xs.length + 1 ≤ cap ∧ cap ≤ maxLen ∧ w.cell? ⟨g, xs.length, none⟩ = some u ∧ Own w base (.slice (some ⟨g, 0, none⟩) xs.length cap) xs := by
  obtain ⟨g', cap', hv', -, -, -, -, hc⟩ := h.cells
  obtain ⟨g, cap, cur, ty, rfl, hb, hg, h1, h2, h3, h4⟩ := h
  simp only [List.length_append, List.length_cons, List.length_nil, Nat.zero_add] at h1 h4 hv' ⊢
  obtain ⟨rfl, rfl⟩ : g = g' ∧ cap = cap' := by simpa using hv'
  refine ⟨g, cap, rfl, h1, h2, hc _ u (by simp), g, cap, cur, ty, rfl, hb, hg, by omega, h2, h3, ?_⟩
  have := congrArg (List.take xs.length) h4
  rw [List.take_take, Nat.min_eq_left (by omega)] at this
  simpa using this
end
section
variable {P : Program} (w : World)
theorem run_room (t ty e ty' : TypeId) (i : TypeInfo) (ht : P.underlying t = some (.slice e)) (hi : P.info? e = some i) (hs : i.size = 1)
    (g sLen sCap : Nat) (cur : Array Value) (hg : w.heap[g]? = some (.cells cur ty' (0, 0)))
    (a : Addr) (c : Nat) (u : Value) (hu : w.cell? (a.add 0) = some u) (h1 : u.oneCell' = true)
    (hroom : sLen + 1 ≤ sCap) (hfit : sLen + 1 ≤ cur.size) :
    (Builtin.append_ #[t, t] ty #[.slice (some ⟨g, 0, none⟩) sLen sCap, .slice (some a) 1 c]).run P w =
      .ok (.slice (some ⟨g, 0, none⟩) (sLen + 1) sCap) (w.setRow g (cur.toList.take sLen ++ [u] ++ cur.toList.drop (sLen + 1)).toArray) := by
  have hnews : ∀ (j : Nat) (x : Value), [u][j]? = some x → w.cell? (a.add j) = some x := by
    intro j x hx
    cases j with
    | zero => simp at hx; subst hx; exact hu
    | succ j => simp at hx
  have hf := run_firstCells_some (P := P) w i.size 1 a 1 c [u] (by simp [hs]) hnews
  have hst := run_storeCells_at P g (sLen * i.size) ty' [u] 0 cur w hg (by simp [hs]; omega) (by simpa using h1)
  simp only [Nat.add_zero, hs, Nat.mul_one] at hst hf
  simp [Builtin.append_, run_underlying ht, sizeOf, typeInfo, hi, Builtin.lenOf, hroom, hf, Addr.add_lit, hst, hs]
theorem run_own (base : Nat) (t ty e : TypeId) (i : TypeInfo) (z : Value) (ht : P.underlying t = some (.slice e)) (hi : P.info? e = some i) (hz : i.zero = some z)
    (hs : i.size = 1) (hby : i.bytes ≤ 8) (hzs : z.cells.size = 1)
    (v : Value) (xs : List Value) (hown : Own w base v xs)
    (a : Addr) (c : Nat) (u : Value) (hu : w.cell? (a.add 0) = some u) (h1 : u.oneCell' = true) (hlen : xs.length ≤ 1099511627776) :
    ∃ v' w', (Builtin.append_ #[t, t] ty #[v, .slice (some a) 1 c]).run P w = .ok v' w' ∧ Own w' base v' (xs ++ [u]) ∧ w.grownBy w' v.ownBlock ∧ (v'.ownBlock = v.ownBlock ∨ v'.ownBlock = some w.heap.size) := by
  have hbase := hown.base_le
  have hlen' : (xs ++ [u]).length = xs.length + 1 := by simp
  have hnews : ∀ (j : Nat) (x : Value), [u][j]? = some x → w.cell? (a.add j) = some x := by
    intro j x hx
    cases j with
    | zero => simp at hx; subst hx; exact hu
    | succ j => simp at hx
  obtain ⟨g', cap', hv', -, -, -, -, hcells⟩ := hown.cells
  obtain ⟨g, cap, cur, ty', rfl, hb, hg, hnc, hcm, hcs, htake⟩ := hown
  obtain ⟨rfl, rfl⟩ : g = g' ∧ cap = cap' := by simpa using hv'
  by_cases hroom : xs.length + 1 ≤ cap
  · have hr := run_room (P := P) w t ty e ty' i ht hi hs g xs.length cap cur hg a c u hu h1 hroom (by omega)
    refine ⟨_, _, hr, ?_, ⟨rfl, rfl, rfl, by simp, fun k _ hk => setRow_other w g k _ (fun e => hk (by simp [Value.ownBlock, e]))⟩, .inl rfl⟩
    refine ⟨g, cap, _, ty', by rw [hlen'], hb, setRow_heap w g cur _ ty' _ hg, by rw [hlen']; exact hroom, hcm, ?_, ?_⟩
    · simp only [List.size_toArray, List.length_append, List.length_take, List.length_drop, Array.length_toList, List.length_cons, List.length_nil]
      omega
    · rw [htake]
      exact List.take_left
  · have hml : xs.length + 1 ≤ maxLen := by simp only [maxLen]; omega
    have hr := run_append_grow (P := P) w t ty e i z ht hi hz ⟨g, 0, none⟩ xs.length cap xs (by simp [hs]) (fun j u hj => by
        have hadd : (⟨g, 0, none⟩ : Addr).add j = ⟨g, j, none⟩ := by unfold Addr.add; split <;> simp_all
        rw [hadd]; exact hcells j u hj) a 1 c [u] (by simp [hs]) hnews (by omega) (by simp only [maxLen] at hml; omega) (growslice_fits (by omega) (by have : (xs.length + 1) * i.bytes ≤ (xs.length + 1) * 8 := Nat.mul_le_mul_left _ hby; omega))
    have hge := grownCap_ge w (xs.length + 1) cap e
    have hcm' : grownCap w (xs.length + 1) cap e ≤ maxLen := grownCap_le_maxLen w (xs.length + 1) cap e hml
    refine ⟨_, _, hr, ?_, ⟨rfl, rfl, rfl, by simp, fun k hk _ => Below.heap_alloc w.drew _ k hk⟩, .inr rfl⟩
    refine ⟨w.heap.size, _, _, e, by rw [hlen'], hbase, heap_alloc_new w.drew _, by rw [hlen']; exact hge, hcm', ?_, ?_⟩
    · simp only [Array.size_append, List.size_toArray, size_zeroCells, hzs, List.length_cons, List.length_nil]
      omega
    · simp only [Array.toList_append, List.append_assoc]
      rw [← List.append_assoc]
      exact List.take_left
theorem wpList_own {ops : Array Oper} {rest : List Oper} {o : Oper} {a : Act} {Q : Exit → Act → World → Prop} (hgd : o.guard = none) (s x : Operand) (t : TypeId)
    (ho : o.op = .call { callee := .builtin .append, args := #[s, x], argTypes := #[t, t] })
    (base : Nat) (e : TypeId) (i : TypeInfo) (z : Value) (ht : P.underlying t = some (.slice e)) (hi : P.info? e = some i) (hz : i.zero = some z)
    (hsz : i.size = 1) (hby : i.bytes ≤ 8) (hzs : z.cells.size = 1)
    (v : Value) (xs : List Value) (hs : a.eval s = v) (hown : Own w base v xs)
    (ad : Addr) (c : Nat) (u : Value) (hx : a.eval x = .slice (some ad) 1 c) (hu : w.cell? (ad.add 0) = some u) (h1 : u.oneCell' = true) (hlen : xs.length ≤ 1099511627776)
    (h : ∀ v' w', Own w' base v' (xs ++ [u]) → w.grownBy w' v.ownBlock → (v'.ownBlock = v.ownBlock ∨ v'.ownBlock = some w.heap.size) → wpList P ops Q rest (a.put o.dst v') w') : wpList P ops Q (o :: rest) a w := by
  refine wpList_plain hgd fun K hK => ?_
  obtain ⟨v', w', hr, h2, h3, h4⟩ := run_own (P := P) w base t o.type e i z ht hi hz hsz hby hzs v xs hown ad c u hu h1 hlen
  unfold Oper.wp execOp
  simp only [ho, resolve, invoke, builtin, Sem.run_bind, Sem.run_pure, Result.andThen_ok, List.map_toArray, List.map_cons, List.map_nil, hs, hx, hr]
  exact hK _ _ (h v' w' h2 h3 h4)
end
theorem below_grown {w0 w w' : World} {B : Nat} {row : Option Nat} (h : Below B w0 w) (hg : w.grownBy w' row) (hrow : ∀ k, row = some k → B ≤ k) (hB : B ≤ w.heap.size) : Below B w0 w' :=
  ⟨hg.os.trans h.os, hg.tape.trans h.tape, hg.output.trans h.output, Nat.le_trans h.size hg.size, fun k hk => (hg.block k (by omega) (fun e => by have := hrow k e.symm; omega)).trans (h.block k hk)⟩
end Go.Proofs.YtajkdjheoefbcaaFmt.OW
