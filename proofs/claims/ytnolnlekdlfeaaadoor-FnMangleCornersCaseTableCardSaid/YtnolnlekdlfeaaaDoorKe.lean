/- Worlds that keep all blocks but the ones named. Of no program. -/
import Derived.Test.YtnolnlekdlfeaaaDoorTab
namespace Go.Proofs.YtnolnlekdlfeaaaDoor.TB
open Go.RowKit
/-- All blocks below B are kept, but block g. -/
structure Kept (B g : Nat) (w w' : World) : Prop where
  os : w'.os = w.os
  tape : w'.tape = w.tape
  output : w'.output = w.output
  size : w.heap.size ≤ w'.heap.size
  block : ∀ k, k < B → k ≠ g → w'.heap[k]? = w.heap[k]?
theorem Kept.refl (B g : Nat) (w : World) : Kept B g w w := ⟨rfl, rfl, rfl, Nat.le_refl _, fun _ _ _ => rfl⟩
theorem Kept.trans {B g : Nat} {a b c : World} (h : Kept B g a b) (k : Kept B g b c) : Kept B g a c :=
  ⟨k.os.trans h.os, k.tape.trans h.tape, k.output.trans h.output, Nat.le_trans h.size k.size, fun i hi hg => (k.block i hi hg).trans (h.block i hi hg)⟩
theorem Kept.of_below {B g : Nat} {w w' : World} (h : Below B w w') : Kept B g w w' := ⟨h.os, h.tape, h.output, h.size, fun k hk _ => h.block k hk⟩
theorem Kept.mono {B C g : Nat} {w w' : World} (h : Kept B g w w') (hC : C ≤ B) : Kept C g w w' := ⟨h.os, h.tape, h.output, h.size, fun k hk hg => h.block k (by omega) hg⟩
theorem Kept.below {B C g : Nat} {w w' : World} (h : Kept B g w w') (hC : C ≤ B) (hg : C ≤ g) : Below C w w' := ⟨h.os, h.tape, h.output, h.size, fun k hk => h.block k (by omega) (by omega)⟩
theorem Kept.alloc {B g : Nat} {a w : World} (h : Kept B g a w) (hB : B ≤ w.heap.size) (o : Obj) : Kept B g a (w.alloc o) := h.trans (.of_below ((Below.refl B w).alloc hB o))
theorem Kept.drew {B g : Nat} {a w : World} (h : Kept B g a w) : Kept B g a w.drew := h.trans (.of_below (Below.refl B w).drew)
theorem Kept.next {B g : Nat} {a w w' : World} (h : Kept B g a w) (hB : B ≤ w.heap.size) (k : Below w.heap.size w w') : Kept B g a w' := h.trans (.of_below (k.mono hB))
theorem Kept.setCell {B g : Nat} {a w : World} (h : Kept B g a w) (o : Nat) (v : Value) : Kept B g a (w.setCell ⟨g, o, none⟩ v) :=
  h.trans ⟨rfl, rfl, rfl, by simp, fun k _ hg => Below.heap_setCell w ⟨g, o, none⟩ v k hg⟩
theorem Kept.setNew {B g : Nat} {a w : World} (h : Kept B g a w) {p : Addr} (hp : B ≤ p.block) (v : Value) : Kept B g a (w.setCell p v) :=
  h.trans ⟨rfl, rfl, rfl, by simp, fun k hk _ => Below.heap_setCell w p v k (by omega)⟩
section
variable {B g : Nat} {w w' : World}
theorem Kept.blk (h : Kept B g w w') {k : Nat} {t : TypeId} {cs : Array Value} (hb : Blk w k t cs) (hk : k < B) (hg : k ≠ g) : Blk w' k t cs := (h.block k hk hg).trans hb
theorem Kept.tab (h : Kept B g w w') {k S n : Nat} {t : TypeId} {f : Nat → Nat → Value} (hb : Tab w k t S n f) (hk : k < B) (hg : k ≠ g) : Tab w' k t S n f := hb.kept (h.block k hk hg)
theorem Kept.cell (h : Kept B g w w') {k : Nat} (o : Nat) (hk : k < B) (hg : k ≠ g) : w'.cell? ⟨k, o, none⟩ = w.cell? ⟨k, o, none⟩ := by
  have := h.block k hk hg
  simp [World.cell?, this]
end
end Go.Proofs.YtnolnlekdlfeaaaDoor.TB
