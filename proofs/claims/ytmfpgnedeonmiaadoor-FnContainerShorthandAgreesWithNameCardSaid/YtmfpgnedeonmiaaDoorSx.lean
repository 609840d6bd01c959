/- symbolForName: what its steps leave alone. -/
import Derived.Test.YtmfpgnedeonmiaaDoorSy
import Derived.Outline
import Derived.Handy
import Derived.Deep.QuietTactic
import Derived.BigQuiet
import Derived.LoopTactic
import Derived.RegionTactic
import Derived.BigRegion
import Derived.Deep.Cut
import Derived.Deep.DeepCutAuto
import Derived.Deep.RegionHeld3
import Derived.Deep.RegionLaw
import Derived.Deep.DrawnRows
namespace Go.Proofs.YtmfpgnedeonmiaaDoor.SY
open Go Go.RowKit Go.Lib Go.Proofs.YtmfpgnedeonmiaaDoor.MP
set_option linter.unusedVariables false
attribute [local go_sem ↓] Go.wp_at_zero Go.wp_at_succ
/-- What a step of the table leaves alone; X says which blocks may change. -/
structure Kp (X : Nat → Prop) (B : Nat) (w w' : World) : Prop where
  below : Below B w w'
  oth : ∀ (g : Nat) (c : Array Value) (ty : TypeId) (fr : Nat × Nat), w.heap[g]? = some (.cells c ty fr) → ty ≠ TP → ty ≠ TS → ty ≠ TL → w'.heap[g]? = w.heap[g]?
  top : ∀ g, w.heap.size ≤ g → X g
  side : ∀ g, ¬ X g → w'.heap[g]? = w.heap[g]?
def SymP (X : Nat → Prop) (w : World) (B pb mb : Nat) (ml : Bool) (L : List Ent) (l0 : Int) (i : Nat) (e : Ending) (w' : World) : Prop :=
  e = .returned (.agg #[.int .i32 l0, .int .u32 0, .int .u32 i]) ∧ (∃ f sv lv, PS X w' B pb mb ml L L (if ml then L else []) f sv lv) ∧ Kp X B w w'
section
variable {X : Nat → Prop} {w W W' : World} {B pb mb : Nat} {ml : Bool} {Lm Ls Ll : List Ent} {f : Nat → Value} {sv lv : Value}
theorem Kp.refl (X : Nat → Prop) (B : Nat) (w : World) (hX : ∀ g, w.heap.size ≤ g → X g) : Kp X B w w := ⟨Below.refl _ _, fun _ _ _ _ _ _ _ _ => rfl, hX, fun _ _ => rfl⟩
theorem Kp.trans (h : Kp X B w W) (k : Kp X B W W') : Kp X B w W' :=
  ⟨h.below.trans k.below, fun g c ty fr hg h1 h2 h3 => (k.oth g c ty fr ((h.oth g c ty fr hg h1 h2 h3).trans hg) h1 h2 h3).trans (h.oth g c ty fr hg h1 h2 h3), h.top, fun g hg => (k.side g hg).trans (h.side g hg)⟩
theorem Kp.top' (h : Kp X B w W) : ∀ g, W.heap.size ≤ g → X g := fun g hg => h.top g (Nat.le_trans h.below.size hg)
theorem lt_of_some {g : Nat} {o : Obj} (h : W.heap[g]? = some o) : g < W.heap.size := (Array.getElem?_eq_some_iff.1 h).1
theorem Kp.alloc (h : Kp X B w W) (hB : B ≤ W.heap.size) (o : Obj) : Kp X B w (W.alloc o) :=
  h.trans ⟨(Below.refl _ _).alloc hB _, fun g c ty fr hg _ _ _ => Below.heap_alloc W o g (lt_of_some hg), h.top', fun g hg => Below.heap_alloc W o g (Nat.lt_of_not_le fun hl => hg (h.top' g hl))⟩
theorem Kp.drew (h : Kp X B w W) : Kp X B w W.drew := h.trans ⟨⟨rfl, rfl, rfl, Nat.le_refl _, fun _ _ => rfl⟩, fun _ _ _ _ _ _ _ _ => rfl, h.top', fun _ _ => rfl⟩
theorem PS.base (h : PS X W B pb mb ml Lm Ls Ll f sv lv) : B ≤ W.heap.size := Nat.le_trans h.hB (Nat.le_of_lt h.par.lt)
theorem own_at {e : TypeId} {size : Nat} {v : Value} {m : Nat} {xs : List Value} (ho : W.ownsRow B e size v m xs) {g : Nat} (hv : v.ownBlock = some g) : ∃ c, W.heap[g]? = some (.cells c e (0, 0)) := by
  rcases ho.2 with ⟨rfl, -⟩ | ⟨g1, cap, cur, rfl, -, hg, -⟩
  · cases hv
  · simp [Value.ownBlock] at hv
    subst hv
    exact ⟨cur, hg⟩
theorem grown_kp {e : TypeId} {size : Nat} {v : Value} {m : Nat} {xs : List Value} (ho : W.ownsRow B e size v m xs) (hB : B ≤ W.heap.size) (he : e = TS ∨ e = TL) (hg : W.grownBy W' v.ownBlock) (hX : ∀ g, W.heap.size ≤ g → X g) (hx : OwnIn X v) : Kp X B W W' := by
  refine ⟨⟨hg.os, hg.tape, hg.output, hg.size, fun g hlt => hg.block g (by omega) (fun hv => ?_)⟩, fun g c ty fr h0 h1 h2 h3 => hg.block g (lt_of_some h0) (fun hv => ?_), hX, fun g hn => hg.block g (Nat.lt_of_not_le fun hl => hn (hX g hl)) (fun hv => hn (hx g hv.symm))⟩
  · have := (ho.lt g hv.symm).1; omega
  · obtain ⟨c', hc'⟩ := own_at ho hv.symm
    rw [hc'] at h0
    simp at h0
    rcases he with rfl | rfl
    · exact h2 h0.2.1.symm
    · exact h3 h0.2.1.symm
theorem set_kp {p : Addr} {t : TypeId} {n : Nat} {r : Nat → Value} (hr : W.rowIs p.block t n r) (hB : B ≤ p.block) (ht : t = TP ∨ t = TS ∨ t = TL) (hX : ∀ g, W.heap.size ≤ g → X g) (hp : X p.block) (u : Value) : Kp X B W (W.setCell p u) := by
  refine ⟨(Below.refl _ _).setCell hB _, fun g c ty fr h0 h1 h2 h3 => Below.heap_setCell W p u g ?_, hX, fun g hn => Below.heap_setCell W p u g (fun e => hn (e ▸ hp))⟩
  rintro rfl
  obtain ⟨c', hc', -⟩ := hr
  rw [hc'] at h0
  simp at h0
  rcases ht with rfl | rfl | rfl
  · exact h1 h0.2.1.symm
  · exact h2 h0.2.1.symm
  · exact h3 h0.2.1.symm
theorem set_kp' {p : Addr} {c : Array Value} {t : TypeId} (hr : W.heap[p.block]? = some (.cells c t (0, 0))) (hB : B ≤ p.block) (ht : t = TP ∨ t = TS ∨ t = TL) (hX : ∀ g, W.heap.size ≤ g → X g) (hp : X p.block) (u : Value) : Kp X B W (W.setCell p u) :=
  set_kp (n := c.size) (r := fun i => c.getD i (.bool false)) ⟨c, hr, rfl, fun i hi => by simp [Array.getD, hi]⟩ hB ht hX hp u
theorem putM_kp {l l' : List (ByteArray × Value)} (h : SMap W mb l) (hB : B ≤ mb) (hX : ∀ g, W.heap.size ≤ g → X g) (hm : X mb) : Kp X B W (putM W mb l') := by
  refine ⟨putM_below W mb l' hB, fun g c ty fr h0 _ _ _ => putM_block W mb l' g ?_, hX, fun g hn => putM_block W mb l' g (fun e => hn (e ▸ hm))⟩
  rintro rfl
  unfold SMap at h
  rw [h] at h0
  cases h0
/-- The blocks of the call's own two variables, and what has not changed. -/
structure Mid (X : Nat → Prop) (w W : World) (B : Nat) (loc : Int) (n : Nat) : Prop where
  x1 : W.heap[w.heap.size + 1]? = some (.cells #[.int .i32 0, .int .u32 0, .int .u32 0] TL (0, 0))
  x2 : W.heap[w.heap.size + 1 + 1]? = some (.cells #[.int .i32 loc, .int .u32 0, .int .u32 n] TL (0, 0))
  kp : Kp X B w W
theorem Mid.step {loc : Int} {n : Nat} (h : Mid X w W B loc n) (k : Kp X B W W') (h1 : W'.heap[w.heap.size + 1]? = W.heap[w.heap.size + 1]?) (h2 : W'.heap[w.heap.size + 1 + 1]? = W.heap[w.heap.size + 1 + 1]?) : Mid X w W' B loc n :=
  ⟨h1.trans h.x1, h2.trans h.x2, h.kp.trans k⟩
/-- An append to a row that is none of them, and the store into the parser. -/
theorem Mid.app {loc : Int} {n : Nat} (h : Mid X w W B loc n) (P : PS X W B pb mb ml Lm Ls Ll f sv lv) {o : Obj} {e : TypeId} {size : Nat} {v : Value} {m : Nat} {xs : List Value} (ho : W.ownsRow B e size v m xs) (he : e = TS ∨ e = TL)
    (hne : ∀ g, v.ownBlock = some g → g ≠ w.heap.size + 1 ∧ g ≠ w.heap.size + 1 + 1) (hx : OwnIn X v) (hg : (W.alloc o).grownBy W' v.ownBlock) (k : Nat) (u : Value) : Mid X w (W'.setCell ⟨pb, k, none⟩ u) B loc n := by
  have l1 := lt_of_some h.x1
  have l2 := lt_of_some h.x2
  have hpl := P.par.lt
  have hk : ∀ q, q < W.heap.size → v.ownBlock ≠ some q → W'.heap[q]? = W.heap[q]? := fun q hq hv => (hg.block q (by simp; omega) (Ne.symm hv)).trans (Below.heap_alloc W o q hq)
  have hp : ∀ c, W.heap[pb]? ≠ some (.cells c TL (0, 0)) := by
    intro c hc
    obtain ⟨c', hc', -⟩ := P.par
    rw [hc'] at hc
    simp at hc
    exact absurd hc.2 (by decide)
  have p1 : w.heap.size + 1 ≠ pb := fun e => hp _ (e ▸ h.x1)
  have p2 : w.heap.size + 1 + 1 ≠ pb := fun e => hp _ (e ▸ h.x2)
  have hv : v.ownBlock ≠ some pb := own_type P.par ho (by rcases he with rfl | rfl <;> decide)
  have hpar' := P.par.of_block (hk pb hpl hv)
  have K1 : Kp X B W (W.alloc o) := (Kp.refl X B W h.kp.top').alloc P.base o
  have K2 := K1.trans (grown_kp (ho.alloc o) (by simp; have := P.base; omega) he hg K1.top' hx)
  refine h.step (K2.trans (set_kp hpar' P.hB (.inl rfl) K2.top' P.xp u)) ?_ ?_
  · exact (Below.heap_setCell W' ⟨pb, k, none⟩ u _ p1).trans (hk _ l1 (fun e => (hne _ e).1 rfl))
  · exact (Below.heap_setCell W' ⟨pb, k, none⟩ u _ p2).trans (hk _ l2 (fun e => (hne _ e).2 rfl))
theorem Mid.put {loc : Int} {n : Nat} (h : Mid X w W B loc n) (P : PS X W B pb mb ml Lm Ls Ll f sv lv) (l' : List (ByteArray × Value)) : Mid X w (putM W mb l') B loc n := by
  have hne : ∀ g c, W.heap[g]? = some (.cells c TL (0, 0)) → g ≠ mb := by
    rintro g c hg rfl
    have := P.sm
    unfold SMap at this
    rw [this] at hg
    cases hg
  exact h.step (putM_kp P.sm P.hm h.kp.top' P.xm) (putM_block W mb l' _ (hne _ _ h.x1)) (putM_block W mb l' _ (hne _ _ h.x2))
theorem Mid.use {loc : Int} {n : Nat} (h : Mid X w W B loc n) {g cap k : Nat} (P : PS X W B pb mb ml Lm Ls Ll f (.slice (some ⟨g, 0, none⟩) k cap) lv) (j : Nat) (u : Value) : Mid X w (W.setCell ⟨g, j, none⟩ u) B loc n := by
  obtain ⟨c, hc⟩ := own_at P.sy (g := g) rfl
  have hne : ∀ q c, W.heap[q]? = some (.cells c TL (0, 0)) → q ≠ g := by
    rintro q c' hq rfl
    rw [hc] at hq
    simp at hq
    exact absurd hq.2 (by decide)
  exact h.step (set_kp' (p := ⟨g, j, none⟩) hc (P.sy.lt g rfl).1 (.inr (.inl rfl)) h.kp.top' (P.xs g rfl) u) (Below.heap_setCell W ⟨g, j, none⟩ u _ (hne _ _ h.x1)) (Below.heap_setCell W ⟨g, j, none⟩ u _ (hne _ _ h.x2))
end
/-- A grown row lies where it lay, or beyond. -/
theorem Mid.new {X : Nat → Prop} {w W : World} {B : Nat} {loc : Int} {n gg m : Nat} {v : Value} (h : Mid X w W B loc n) (hat : v.ownBlock = some gg ∨ gg = m) (hm : W.heap.size ≤ m) (hx : OwnIn X v) : X gg := by
  rcases hat with hat | hat
  · exact hx gg hat
  · exact h.kp.top' gg (by omega)
theorem mid0 {X : Nat → Prop} (w : World) (B T : Nat) (loc : Int) (n : Nat) (hB : B ≤ w.heap.size) (hX : ∀ g, w.heap.size ≤ g → X g) : Mid X w (((w.alloc (.cells #[.int .i32 loc] T)).alloc (.cells #[.int .i32 0, .int .u32 0, .int .u32 0] TL)).alloc (.cells #[.int .i32 loc, .int .u32 0, .int .u32 n] TL)).drew B loc n := by
  have s1 : (w.alloc (.cells #[.int .i32 loc] T)).heap.size = w.heap.size + 1 := by simp
  have s2 : ((w.alloc (.cells #[.int .i32 loc] T)).alloc (.cells #[.int .i32 0, .int .u32 0, .int .u32 0] TL)).heap.size = w.heap.size + 1 + 1 := by simp
  refine ⟨?_, ?_, ((((Kp.refl X B w hX).alloc hB _).alloc (by rw [s1]; omega) _).alloc (by rw [s2]; omega) _).drew⟩
  · have h1 := heap_alloc_new (w.alloc (.cells #[.int .i32 loc] T)) (.cells #[.int .i32 0, .int .u32 0, .int .u32 0] TL)
    have h2 := Below.heap_alloc ((w.alloc (.cells #[.int .i32 loc] T)).alloc (.cells #[.int .i32 0, .int .u32 0, .int .u32 0] TL)) (.cells #[.int .i32 loc, .int .u32 0, .int .u32 n] TL) (w.heap.size + 1) (by rw [s2]; omega)
    rw [s1] at h1
    exact h2.trans h1
  · have h1 := heap_alloc_new ((w.alloc (.cells #[.int .i32 loc] T)).alloc (.cells #[.int .i32 0, .int .u32 0, .int .u32 0] TL)) (.cells #[.int .i32 loc, .int .u32 0, .int .u32 n] TL)
    rw [s2] at h1
    exact h1
theorem mid1 {X : Nat → Prop} (w : World) (B T : Nat) (b : Value) (loc : Int) (n : Nat) (hB : B ≤ w.heap.size) (hX : ∀ g, w.heap.size ≤ g → X g) : Mid X w (((w.alloc (.cells #[b] T)).alloc (.cells #[.int .i32 0, .int .u32 0, .int .u32 0] TL)).alloc (.cells #[.int .i32 loc, .int .u32 0, .int .u32 n] TL)) B loc n := by
  have s1 : (w.alloc (.cells #[b] T)).heap.size = w.heap.size + 1 := by simp
  have s2 : ((w.alloc (.cells #[b] T)).alloc (.cells #[.int .i32 0, .int .u32 0, .int .u32 0] TL)).heap.size = w.heap.size + 1 + 1 := by simp
  refine ⟨?_, ?_, ((((Kp.refl X B w hX).alloc hB _).alloc (by rw [s1]; omega) _).alloc (by rw [s2]; omega) _)⟩
  · have h1 := heap_alloc_new (w.alloc (.cells #[b] T)) (.cells #[.int .i32 0, .int .u32 0, .int .u32 0] TL)
    have h2 := Below.heap_alloc ((w.alloc (.cells #[b] T)).alloc (.cells #[.int .i32 0, .int .u32 0, .int .u32 0] TL)) (.cells #[.int .i32 loc, .int .u32 0, .int .u32 n] TL) (w.heap.size + 1) (by rw [s2]; omega)
    rw [s1] at h1
    exact h2.trans h1
  · have h1 := heap_alloc_new ((w.alloc (.cells #[b] T)).alloc (.cells #[.int .i32 0, .int .u32 0, .int .u32 0] TL)) (.cells #[.int .i32 loc, .int .u32 0, .int .u32 n] TL)
    rw [s2] at h1
    exact h1
theorem mapl_set (L : List Ent) (i b : Nat) (e : Ent) (u : Nat) (h : L[i]? = some e) : mapl (L.set i { e with uses := u }) b = mapl L b := by
  induction L generalizing i b with
  | nil => rfl
  | cons a L ih =>
    cases i with
    | zero => simp at h; subst h; rfl
    | succ i => simp only [List.set_cons_succ, mapl]; rw [ih i (b + 1) (by simpa using h)]
theorem locs_set (L : List Ent) (i b : Nat) (e : Ent) (u : Nat) (h : L[i]? = some e) : locs (L.set i { e with uses := u }) b = locs L b := by
  induction L generalizing i b with
  | nil => rfl
  | cons a L ih =>
    cases i with
    | zero => simp at h; subst h; rfl
    | succ i => simp only [List.set_cons_succ, locs]; rw [ih i (b + 1) (by simpa using h)]
theorem PS.use_one {X : Nat → Prop} {w : World} {B pb mb : Nat} {ml : Bool} {L : List Ent} {f : Nat → Value} {lv : Value} {g cap i : Nat} {e : Ent} (hi : L[i]? = some e) (h : PS X w B pb mb ml L L (if ml then L else []) f (.slice (some ⟨g, 0, none⟩) L.length cap) lv) :
    PS X (w.setCell ⟨g, i * 10 + 4, none⟩ (.int .u32 ((e.uses : Int) + 1))) B pb mb ml (L.set i { e with uses := e.uses + 1 }) (L.set i { e with uses := e.uses + 1 }) (if ml then L.set i { e with uses := e.uses + 1 } else []) f (.slice (some ⟨g, 0, none⟩) L.length cap) lv := by
  have h1 := h.use_set i e (e.uses + 1) hi
  have hc : (((e.uses + 1 : Nat)) : Int) = (e.uses : Int) + 1 := by omega
  rw [hc] at h1
  exact { h1 with
    sm := by rw [mapl_set L i 0 e _ hi]; exact h1.sm
    lc := by
      have := h1.lc
      cases ml
      · exact this
      · show World.ownsRow _ B TL 3 lv (L.set i { e with uses := e.uses + 1 }).length (locs (L.set i { e with uses := e.uses + 1 }) 0)
        rw [locs_set L i 0 e _ hi, List.length_set]
        exact this }
theorem own_far {X : Nat → Prop} {w W : World} {B : Nat} {loc : Int} {n size m : Nat} {v : Value} {xs : List Value} (ho : W.ownsRow B TS size v m xs) (h : Mid X w W B loc n) {g : Nat} (hv : v.ownBlock = some g) : g ≠ w.heap.size + 1 ∧ g ≠ w.heap.size + 1 + 1 := by
  obtain ⟨c, hc⟩ := own_at ho hv
  refine ⟨?_, ?_⟩
  · rintro rfl
    have := h.x1
    rw [hc] at this
    simp at this
    exact absurd this.2 (by decide)
  · rintro rfl
    have := h.x2
    rw [hc] at this
    simp at this
    exact absurd this.2 (by decide)
theorem grown_drew {w w' : World} {r : Option Nat} (h : w.drew.grownBy w' r) : w.grownBy w' r := ⟨h.os, h.tape, h.output, h.size, h.block⟩
theorem cell3_0 {W : World} {x : Nat} {a b c : Value} {t : TypeId} (h : W.heap[x]? = some (.cells #[a, b, c] t (0, 0))) : W.cell? ⟨x, 0, none⟩ = some a := by rw [cell_of_row W x 0 _ _ _ h]; rfl
theorem cell3_1 {W : World} {x : Nat} {a b c : Value} {t : TypeId} (h : W.heap[x]? = some (.cells #[a, b, c] t (0, 0))) : W.cell? ⟨x, 1, none⟩ = some b := by rw [cell_of_row W x 1 _ _ _ h]; rfl
theorem cell3_2 {W : World} {x : Nat} {a b c : Value} {t : TypeId} (h : W.heap[x]? = some (.cells #[a, b, c] t (0, 0))) : W.cell? ⟨x, 2, none⟩ = some c := by rw [cell_of_row W x 2 _ _ _ h]; rfl
theorem froz3 {W : World} {x j : Nat} {c : Array Value} {t : TypeId} (h : W.heap[x]? = some (.cells c t (0, 0))) : W.frozen? ⟨x, j, none⟩ = false := by simp [World.frozen?, h]
theorem Mid.drewN {X : Nat → Prop} {w W : World} {B : Nat} {loc : Int} {n : Nat} (h : Mid X w W B loc n) (k : Nat) : Mid X w (W.drewN k) B loc n := ⟨h.x1, h.x2, ⟨⟨h.kp.below.os, h.kp.below.tape, h.kp.below.output, h.kp.below.size, h.kp.below.block⟩, h.kp.oth, h.kp.top, h.kp.side⟩⟩
theorem PS.use_last {X : Nat → Prop} {w : World} {B pb mb : Nat} {ml : Bool} {Lm L Ll : List Ent} {f : Nat → Value} {lv : Value} {g cap : Nat} {nm : ByteArray} {loc : Int} (h : PS X w B pb mb ml Lm (L ++ [⟨nm, loc, 0⟩]) Ll f (.slice (some ⟨g, 0, none⟩) (L.length + 1) cap) lv) :
    PS X (w.setCell ⟨g, L.length * 10 + 4, none⟩ (.int .u32 1)) B pb mb ml Lm (L ++ [⟨nm, loc, 1⟩]) Ll f (.slice (some ⟨g, 0, none⟩) (L.length + 1) cap) lv := by
  have hl : (L ++ [(⟨nm, loc, 0⟩ : Ent)]).length = L.length + 1 := by simp
  have h' := h
  rw [← hl] at h'
  have := h'.use_set L.length ⟨nm, loc, 0⟩ 1 (by simp)
  rw [hl] at this
  simpa using this
theorem finish {X : Nat → Prop} {w W : World} {B pb mb : Nat} {ml : Bool} {Lm Ls Ll : List Ent} {f : Nat → Value} {sv lv : Value} {loc : Int} {n : Nat} (P : PS X W B pb mb ml Lm Ls Ll f sv lv) (M : Mid X w W B loc n) (hl : lv.ownBlock ≠ some (w.heap.size + 1)) (a b c : Value) :
    (∃ f sv lv, PS X (((W.setCell ⟨w.heap.size + 1, 0, none⟩ a).setCell ⟨w.heap.size + 1, 1, none⟩ b).setCell ⟨w.heap.size + 1, 2, none⟩ c) B pb mb ml Lm Ls Ll f sv lv) ∧ Kp X B w (((W.setCell ⟨w.heap.size + 1, 0, none⟩ a).setCell ⟨w.heap.size + 1, 1, none⟩ b).setCell ⟨w.heap.size + 1, 2, none⟩ c) := by
  have hB : B ≤ w.heap.size + 1 := by
    rcases Nat.lt_or_ge (w.heap.size + 1) B with hlt | hge
    · have h1 := M.kp.below.block _ hlt
      rw [M.x1] at h1
      have := lt_of_some h1.symm
      omega
    · exact hge
  have hp : w.heap.size + 1 ≠ pb := by
    intro e
    obtain ⟨c', hc', -⟩ := P.par
    have := M.x1
    rw [e, hc'] at this
    simp at this
    exact absurd this.2 (by decide)
  have hm : w.heap.size + 1 ≠ mb := by
    intro e
    have h1 := P.sm
    unfold SMap at h1
    rw [← e, M.x1] at h1
    cases h1
  have hs : sv.ownBlock ≠ some (w.heap.size + 1) := fun hv => (own_far P.sy M hv).1 rfl
  refine ⟨⟨f, sv, lv, ((P.set_away (p := ⟨w.heap.size + 1, 0, none⟩) a hB hp hm hs hl).set_away (p := ⟨w.heap.size + 1, 1, none⟩) b hB hp hm hs hl).set_away (p := ⟨w.heap.size + 1, 2, none⟩) c hB hp hm hs hl⟩, M.kp.trans ?_⟩
  have r0 : W.rowIs (w.heap.size + 1) TL 3 (fun i => (#[Value.int .i32 0, .int .u32 0, .int .u32 0] : Array Value).getD i (.bool false)) := ⟨_, M.x1, rfl, fun i hi => by simp [Array.getD, hi]⟩
  have hx : X (w.heap.size + 1) := M.kp.top _ (by omega)
  have K1 : Kp X B W _ := set_kp (p := ⟨w.heap.size + 1, 0, none⟩) r0 hB (.inr (.inr rfl)) M.kp.top' hx a
  have K2 := K1.trans (set_kp (p := ⟨w.heap.size + 1, 1, none⟩) (r0.set 0 a) hB (.inr (.inr rfl)) K1.top' hx b)
  exact K2.trans (set_kp (p := ⟨w.heap.size + 1, 2, none⟩) ((r0.set 0 a).set 1 b) hB (.inr (.inr rfl)) K2.top' hx c)
theorem wrapU32 (n : Int) (h0 : 0 ≤ n) (h1 : n ≤ 4294967295) : IntKind.u32.wrap n = n := by
  simp [IntKind.wrap, IntKind.bits, IntKind.signed]; omega
theorem size_alloc (w : World) (o : Obj) : (w.alloc o).heap.size = w.heap.size + 1 := by simp
theorem zeroL (w : World) : (zeroValue TL).run Tryd.prog w = .ok (.agg #[.int .i32 0, .int .u32 0, .int .u32 0]) w := by kernel_rfl
theorem infoS : (Tryd.prog.info? TS).map (fun i => (i.zero, i.size, i.bytes)) = some (some (.agg #[.pointer none, .string ⟨#[]⟩, .int .u32 0, .int .u32 0, .int .u32 0, .int .u32 0, .int .u32 0, .int .u16 0, .int .u8 0, .int .u8 0]), 10, 48) := by kernel_rfl
theorem infoL : (Tryd.prog.info? TL).map (fun i => (i.zero, i.size, i.bytes)) = some (some (.agg #[.int .i32 0, .int .u32 0, .int .u32 0]), 3, 12) := by kernel_rfl
end Go.Proofs.YtmfpgnedeonmiaaDoor.SY
