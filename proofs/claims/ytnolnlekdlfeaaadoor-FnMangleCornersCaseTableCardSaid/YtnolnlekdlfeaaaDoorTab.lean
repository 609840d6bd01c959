/- Blocks known whole, and blocks that are tables: rows of a fixed number of cells. Of no program. -/
import Derived.Below
import Derived.Laws.OwnMore
import Derived.Laws.MakeOwn
import Derived.Deep.Draws
import Derived.Deep.MidRow
import Derived.Laws.Rows
namespace Go.Proofs.YtnolnlekdlfeaaaDoor.TB
open Go.RowKit
def Blk (w : World) (g : Nat) (t : TypeId) (cs : Array Value) : Prop := w.heap[g]? = some (.cells cs t (0, 0))
section
variable {w w' : World} {g : Nat} {t : TypeId} {cs : Array Value}
theorem Blk.lt (h : Blk w g t cs) : g < w.heap.size := by
  rcases Nat.lt_or_ge g w.heap.size with hlt | hge
  · exact hlt
  · unfold Blk at h; rw [Array.getElem?_eq_none hge] at h; cases h
theorem Blk.cell (h : Blk w g t cs) (i : Nat) : w.cell? ⟨g, i, none⟩ = cs[i]? := cell_of_row w g i cs t (0, 0) h
theorem Blk.frozen (h : Blk w g t cs) (i : Nat) : w.frozen? ⟨g, i, none⟩ = false := by
  unfold Blk at h
  simp [World.frozen?, h]
theorem Blk.new (w : World) (t : TypeId) (cs : Array Value) : Blk (w.alloc (.cells cs t)) w.heap.size t cs := heap_alloc_new w _
theorem Blk.drew (h : Blk w g t cs) : Blk w.drew g t cs := h
theorem Blk.drewN (h : Blk w g t cs) (n : Nat) : Blk (w.drewN n) g t cs := h
theorem Blk.alloc (h : Blk w g t cs) (o : Obj) : Blk (w.alloc o) g t cs := (Below.heap_alloc w o g h.lt).trans h
theorem Blk.set_ (h : Blk w g t cs) (i : Nat) (u : Value) : Blk (w.setCell ⟨g, i, none⟩ u) g t (cs.setIfInBounds i u) := by
  unfold Blk at h ⊢
  simp [World.setCell, Array.getElem?_modify, h]
theorem Blk.far (h : Blk w g t cs) {p : Addr} (hp : g ≠ p.block) (u : Value) : Blk (w.setCell p u) g t cs := (Below.heap_setCell w p u g hp).trans h
theorem Blk.below {B : Nat} (h : Blk w g t cs) (hb : Below B w w') (hg : g < B) : Blk w' g t cs := (hb.block g hg).trans h
theorem Blk.grown {row : Option Nat} (h : Blk w g t cs) (hb : w.grownBy w' row) (hg : some g ≠ row) : Blk w' g t cs := (hb.block g h.lt hg).trans h
end

/-- Block g is a table of n rows of S cells; row i, column j holds 'f i j'. -/
def Tab (w : World) (g : Nat) (t : TypeId) (S n : Nat) (f : Nat → Nat → Value) : Prop :=
  ∃ cs : Array Value, Blk w g t cs ∧ cs.size = n * S ∧ ∀ i j, i < n → j < S → cs[i * S + j]? = some (f i j)
theorem row_lt {i j n S : Nat} (hi : i < n) (hj : j < S) : i * S + j < n * S := by
  have : (i + 1) * S ≤ n * S := Nat.mul_le_mul_right S hi
  rw [Nat.add_mul] at this
  omega
theorem row_inj {i j a b S : Nat} (hj : j < S) (hb : b < S) (h : i * S + j = a * S + b) : i = a ∧ j = b := by
  have h1 : (i * S + j) / S = (a * S + b) / S := by rw [h]
  have e1 : (i * S + j) / S = i := by rw [Nat.mul_comm, Nat.mul_add_div (by omega), Nat.div_eq_of_lt hj]; rfl
  have e2 : (a * S + b) / S = a := by rw [Nat.mul_comm, Nat.mul_add_div (by omega), Nat.div_eq_of_lt hb]; rfl
  have : i = a := by omega
  subst this
  exact ⟨rfl, by omega⟩
def upd (f : Nat → Nat → Value) (i j : Nat) (v : Value) : Nat → Nat → Value := fun a b => if a = i ∧ b = j then v else f a b
section
variable {w w' : World} {g : Nat} {t : TypeId} {S n : Nat} {f f' : Nat → Nat → Value}
theorem Tab.lt (h : Tab w g t S n f) : g < w.heap.size := by obtain ⟨cs, hb, _⟩ := h; exact hb.lt
theorem Tab.cell (h : Tab w g t S n f) {i j : Nat} (hi : i < n) (hj : j < S) : w.cell? ⟨g, i * S + j, none⟩ = some (f i j) := by
  obtain ⟨cs, hb, -, hc⟩ := h
  rw [hb.cell, hc i j hi hj]
theorem Tab.frozen (h : Tab w g t S n f) (o : Nat) : w.frozen? ⟨g, o, none⟩ = false := by obtain ⟨cs, hb, _⟩ := h; exact hb.frozen o
theorem Tab.ext (h : Tab w g t S n f) (e : ∀ i j, i < n → j < S → f i j = f' i j) : Tab w g t S n f' := by
  obtain ⟨cs, hb, hs, hc⟩ := h
  exact ⟨cs, hb, hs, fun i j hi hj => by rw [hc i j hi hj, e i j hi hj]⟩
theorem Tab.drew (h : Tab w g t S n f) : Tab w.drew g t S n f := h
theorem Tab.drewN (h : Tab w g t S n f) (k : Nat) : Tab (w.drewN k) g t S n f := h
theorem Tab.alloc (h : Tab w g t S n f) (o : Obj) : Tab (w.alloc o) g t S n f := by
  obtain ⟨cs, hb, h2⟩ := h; exact ⟨cs, hb.alloc o, h2⟩
theorem Tab.far (h : Tab w g t S n f) {p : Addr} (hp : g ≠ p.block) (u : Value) : Tab (w.setCell p u) g t S n f := by
  obtain ⟨cs, hb, h2⟩ := h; exact ⟨cs, hb.far hp u, h2⟩
theorem Tab.below {B : Nat} (h : Tab w g t S n f) (hb : Below B w w') (hg : g < B) : Tab w' g t S n f := by
  obtain ⟨cs, hk, h2⟩ := h; exact ⟨cs, hk.below hb hg, h2⟩
theorem Tab.kept (h : Tab w g t S n f) (hb : w'.heap[g]? = w.heap[g]?) : Tab w' g t S n f := by
  obtain ⟨cs, hk, h2⟩ := h; exact ⟨cs, hb.trans hk, h2⟩
theorem Tab.set (h : Tab w g t S n f) {i j : Nat} (hi : i < n) (hj : j < S) (v : Value) : Tab (w.setCell ⟨g, i * S + j, none⟩ v) g t S n (upd f i j v) := by
  obtain ⟨cs, hb, hs, hc⟩ := h
  refine ⟨_, hb.set_ _ v, by simpa using hs, fun a b ha hb' => ?_⟩
  rw [Array.getElem?_setIfInBounds]
  by_cases e : i * S + j = a * S + b
  · obtain ⟨rfl, rfl⟩ := row_inj hj hb' e
    have := row_lt hi hj
    simp [upd, hs, this]
  · rw [if_neg e, hc a b ha hb']
    unfold upd
    rw [if_neg]
    rintro ⟨rfl, rfl⟩
    exact e rfl
theorem Tab.range (h : Tab w g t S n f) {i : Nat} (hi : i < n) (vs : List Value) (hl : vs.length = S) (hv : ∀ j, j < S → vs[j]? = some (f i j)) : w.rangeAt g (i * S) vs := by
  intro j v hj
  have hlt : j < S := by have := (List.getElem?_eq_some_iff.1 hj).1; omega
  rw [h.cell hi hlt, ← hv j hlt, hj]
theorem Tab.there (h : Tab w g t S n f) {i : Nat} (hi : i < n) : w.there g (i * S) S := fun j hj => ⟨by rw [h.cell hi hj]; rfl, h.frozen _⟩
/-- A row stored from its k-th cell on. -/
theorem Tab.setCells (vs : List Value) : ∀ {w : World} {f : Nat → Nat → Value} (k : Nat) (_ : Tab w g t S n f) {i : Nat} (_ : i < n) (_ : k + vs.length ≤ S),
    Tab (w.setCells g (i * S + k) vs) g t S n (fun a b => if a = i ∧ k ≤ b ∧ b < k + vs.length then vs[b - k]?.getD undef else f a b) := by
  induction vs with
  | nil =>
    intro w f k h i hi hl
    refine h.ext fun a b _ _ => ?_
    rw [if_neg]
    rintro ⟨-, h1, h2⟩
    simp at h2
    omega
  | cons v r ih =>
    intro w f k h i hi hl
    simp only [List.length_cons] at hl
    have h1 := h.set hi (j := k) (by omega) v
    have h2 := ih (k + 1) h1 hi (by omega)
    rw [World.setCells, Nat.add_assoc]
    refine h2.ext fun a b _ _ => ?_
    simp only [List.length_cons, upd]
    by_cases ha : a = i
    · subst ha
      by_cases hb : b = k
      · subst hb; simp; omega
      · by_cases hk : k + 1 ≤ b ∧ b < k + 1 + r.length
        · rw [if_pos ⟨rfl, hk⟩, if_pos ⟨rfl, by omega, by omega⟩]
          rw [show b - k = (b - (k + 1)) + 1 by omega, List.getElem?_cons_succ]
        · rw [if_neg (by rintro ⟨-, h⟩; exact hk h), if_neg (by rintro ⟨-, h⟩; exact hb h), if_neg (by rintro ⟨-, h1, h2⟩; omega)]
    · rw [if_neg (by rintro ⟨h, -⟩; exact ha h), if_neg (by rintro ⟨h, -⟩; exact ha h), if_neg (by rintro ⟨h, -⟩; exact ha h)]
theorem Tab.row (h : Tab w g t S n f) {i : Nat} (hi : i < n) (vs : List Value) (hl : vs.length = S) :
    Tab (w.setCells g (i * S) vs) g t S n (fun a b => if a = i then vs[b]?.getD undef else f a b) := by
  refine (Tab.setCells vs 0 h hi (by omega)).ext fun a b _ hb => ?_
  by_cases ha : a = i
  · rw [if_pos ⟨ha, by omega, by omega⟩, if_pos ha]; rfl
  · rw [if_neg (by rintro ⟨h, -⟩; exact ha h), if_neg ha]
/-- What 'make' lays. -/
theorem Tab.new (w : World) (t : TypeId) (z : Array Value) (n S : Nat) (hz : z.size = S) (f : Nat → Nat → Value) (hf : ∀ i j, i < n → j < S → f i j = z[j]!) :
    Tab (w.alloc (.cells (madeCells z (n * S)) t)) w.heap.size t S n f := by
  refine ⟨_, Blk.new w t _, size_madeCells _ _, fun i j hi hj => ?_⟩
  have hlt := row_lt hi hj
  simp only [madeCells, Array.getElem?_map, Array.getElem?_range, hlt, if_true, Option.map_some]
  rw [hf i j hi hj, hz, Nat.mul_comm, Nat.mul_add_mod, Nat.mod_eq_of_lt hj]
end
end Go.Proofs.YtnolnlekdlfeaaaDoor.TB
