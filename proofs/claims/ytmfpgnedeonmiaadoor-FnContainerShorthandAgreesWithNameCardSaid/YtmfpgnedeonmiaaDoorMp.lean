/- A map from strings that a call has made and that only gains new keys: its block known whole. Of no program. -/
import Derived.Below
import Derived.WideMake
import Derived.MapKept
import Derived.WalkKit
import Derived.Carry
import Derived.Deep.Draws
import Derived.Laws.Rows
namespace Go.Proofs.YtmfpgnedeonmiaaDoor.MP
open Go Go.RowKit
/-- The entries, in the order in which they came. -/
def ents : List (ByteArray × Value) → Nat → List MapEntry
  | [], _ => []
  | p :: l, i => { key := .string p.1, val := p.2, born := i } :: ents l (i + 1)
/-- What the key s holds. -/
def mlook : List (ByteArray × Value) → ByteArray → Option Value
  | [], _ => none
  | p :: l, s => if s = p.1 then some p.2 else mlook l s
theorem ents_snoc (l : List (ByteArray × Value)) (p : ByteArray × Value) (i : Nat) : ents (l ++ [p]) i = ents l i ++ [{ key := .string p.1, val := p.2, born := i + l.length }] := by
  induction l generalizing i with
  | nil => simp [ents]
  | cons q l ih =>
    simp only [List.cons_append, ents, List.length_cons]
    rw [ih, show i + 1 + l.length = i + (l.length + 1) by omega]
theorem same_str (s u : ByteArray) : Instr.sameNow .string (.string s) (.string u) = some (decide (s = u)) := by
  simp only [Instr.sameNow]
  congr 1
  rw [Bool.eq_iff_iff, MapKept.bytes_beq]
  simp
theorem find_some (l : List (ByteArray × Value)) (s : ByteArray) (v : Value) (i : Nat) (h : mlook l s = some v) : ∃ k, Instr.findNow .string (.string s) (ents l i) i = some (some (k, v)) := by
  induction l generalizing i with
  | nil => simp [mlook] at h
  | cons p l ih =>
    simp only [mlook] at h
    simp only [ents, Instr.findNow, same_str]
    by_cases e : s = p.1
    · rw [if_pos e] at h
      cases h
      simp [e]
    · rw [if_neg e] at h
      obtain ⟨k, hk⟩ := ih (i + 1) h
      exact ⟨k, by simp only [decide_eq_false e]; exact hk⟩
theorem find_none (l : List (ByteArray × Value)) (s : ByteArray) (i : Nat) (h : mlook l s = none) : Instr.findNow .string (.string s) (ents l i) i = some none := by
  induction l generalizing i with
  | nil => rfl
  | cons p l ih =>
    simp only [mlook] at h
    simp only [ents, Instr.findNow, same_str]
    by_cases e : s = p.1
    · rw [if_pos e] at h; cases h
    · rw [if_neg e] at h
      simp only [decide_eq_false e]; exact ih (i + 1) h
/-- Block b is the map of the list l. -/
def SMap (w : World) (b : Nat) (l : List (ByteArray × Value)) : Prop := w.heap[b]? = some (.map (ents l 0).toArray l.length)
section
variable {P : Program} {w w' : World} {b : Nat} {l : List (ByteArray × Value)} {t k e : TypeId}
theorem SMap.lt (h : SMap w b l) : b < w.heap.size := (Array.getElem?_eq_some_iff.1 h).1
theorem SMap.kept (h : SMap w b l) (hk : w'.heap[b]? = w.heap[b]?) : SMap w' b l := by unfold SMap; rw [hk]; exact h
theorem SMap.below (h : SMap w b l) (hb : Below w.heap.size w w') : SMap w' b l := h.kept (hb.block b h.lt)
theorem SMap.alloc (h : SMap w b l) (o : Obj) : SMap (w.alloc o) b l := h.kept (Below.heap_alloc w o b h.lt)
theorem SMap.drew (h : SMap w b l) : SMap w.drew b l := h
theorem SMap.drewN (h : SMap w b l) (n : Nat) : SMap (w.drewN n) b l := h
theorem SMap.setCell (h : SMap w b l) {p : Addr} (hp : b ≠ p.block) (u : Value) : SMap (w.setCell p u) b l := h.kept (Below.heap_setCell w p u b hp)
theorem SMap.made (w : World) : SMap (w.alloc (.map #[] 0)) w.heap.size [] := by unfold SMap; rw [heap_alloc_new]; rfl
theorem SMap.not_cells (h : SMap w b l) (a : Addr) (v : Value) (hc : w.cell? a = some v) : a.block ≠ b := by
  intro e
  unfold World.cell? at hc
  rw [e, h] at hc
  cases hc
theorem SMap.look_yes (h : SMap w b l) (ht : P.underlying t = some (.map k e)) (hk : P.underlying k = some .string) {s : ByteArray} {v : Value} (hl : mlook l s = some v) :
    (Instr.lookup t (.map (some b)) (.string s) true).run P w = .ok (.tuple #[v, .bool true]) w := by
  obtain ⟨i, hi⟩ := find_some l s v 0 hl
  have hc : ∀ em, (Instr.checkKey em 10000 k (.string s)).run P w = .ok () w := fun em => MapKept.run_checkKey (k := .string s) hk (by simp [MapKept.IsKey]) em 9999
  simp [Instr.lookup, run_underlying ht, MapKept.run_getObj_map h, hc, MapKept.run_findKey hk hi, Result.andThen]
theorem SMap.look_no (h : SMap w b l) (ht : P.underlying t = some (.map k e)) (hk : P.underlying k = some .string) {s : ByteArray} {z : Value} (hz : (zeroValue e).run P w = .ok z w) (hl : mlook l s = none) :
    (Instr.lookup t (.map (some b)) (.string s) true).run P w = .ok (.tuple #[z, .bool false]) w := by
  have hi := find_none l s 0 hl
  have hc : ∀ em, (Instr.checkKey em 10000 k (.string s)).run P w = .ok () w := fun em => MapKept.run_checkKey (k := .string s) hk (by simp [MapKept.IsKey]) em 9999
  simp [Instr.lookup, run_underlying ht, MapKept.run_getObj_map h, hc, MapKept.run_findKey hk hi, hz, Result.andThen]
/-- The map's block put anew. -/
def putM (w : World) (b : Nat) (l : List (ByteArray × Value)) : World := { w with heap := w.heap.setIfInBounds b (.map (ents l 0).toArray l.length) }
theorem SMap.put (h : SMap w b l) (ht : P.underlying t = some (.map k e)) (hk : P.underlying k = some .string) {s : ByteArray} (v : Value) (hl : mlook l s = none) :
    (Instr.mapUpdate t (.map (some b)) (.string s) v).run P w = .ok () (putM w b (l ++ [(s, v)])) := by
  have hi := find_none l s 0 hl
  have hc : ∀ em, (Instr.checkKey em 10000 k (.string s)).run P w = .ok () w := fun em => MapKept.run_checkKey (k := .string s) hk (by simp [MapKept.IsKey]) em 9999
  simp [Instr.mapUpdate, run_underlying ht, MapKept.run_getObj_map h, hc, MapKept.run_findKey hk hi, MapKept.run_setObj_map _ h, Result.andThen, putM, ents_snoc]
theorem putM_size (w : World) (b : Nat) (l : List (ByteArray × Value)) : (putM w b l).heap.size = w.heap.size := by simp [putM]
theorem putM_block (w : World) (b : Nat) (l : List (ByteArray × Value)) (g : Nat) (h : g ≠ b) : (putM w b l).heap[g]? = w.heap[g]? := by
  simp [putM, Ne.symm h]
theorem putM_map (w : World) (b : Nat) (l : List (ByteArray × Value)) (h : b < w.heap.size) : SMap (putM w b l) b l := by
  simp [putM, SMap, h]
theorem putM_below (w : World) (b : Nat) (l : List (ByteArray × Value)) {B : Nat} (h : B ≤ b) : Below B w (putM w b l) :=
  ⟨rfl, rfl, rfl, by simp [putM], fun g hg => putM_block w b l g (by omega)⟩
end
theorem look_append_none {l : List (ByteArray × Value)} {s : ByteArray} (h : mlook l s = none) (v : Value) : mlook (l ++ [(s, v)]) s = some v := by
  induction l with
  | nil => simp [mlook]
  | cons p l ih =>
    simp only [mlook] at h
    by_cases e : s = p.1
    · rw [if_pos e] at h; cases h
    · rw [if_neg e] at h
      simp [mlook, e, ih h]
end Go.Proofs.YtmfpgnedeonmiaaDoor.MP
