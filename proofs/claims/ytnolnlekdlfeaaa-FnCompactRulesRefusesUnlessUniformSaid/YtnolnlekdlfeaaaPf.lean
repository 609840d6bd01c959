/- FnCompactRulesRefusesUnlessUniform: what memory holds. Printed by gen_pf.py. -/
import Derived.Test.YtnolnlekdlfeaaaPe
namespace Go.Proofs.Ytnolnlekdlfeaaa.ZT
open Go.RowKit Go.Proofs.Ytnolnlekdlfeaaa.TB
set_option linter.unusedVariables false
structure MW (w0 : World) (p v : Nat → Bool) (st x z : Nat → Int) (n gp gs gv gx gl gd gr gi gk : Nat) (D : Nat → Nat) (S : Nat → Cn) (k : Nat) (W : World) : Prop where
  bp : Tab W gp 22 1 4 (fun i _ => .bool (p i))
  bs : Tab W gs 23 1 4 (fun i _ => .int .u8 (st i))
  bv : Tab W gv 22 1 4 (fun i _ => .bool (v i))
  bx : Tab W gx 25 1 4 (fun i _ => .int .u16 (x i))
  l : Tab W gl 21 1 n (fun i _ => .int .i32 (z i))
  d : Tab W gd 57 1 n (dF D n)
  r : Tab W gr 62 2 n (rF D z n)
  a : ∀ i, i < n → Cel W (D i)
  i : Tab W gi 33 1 4 (iF x n k)
  c : Tab W gk 47 18 4 (kF S k)
  b : Below w0.heap.size w0 W
def NE (B gp gs gv gx gl gd gr gi gk : Nat) : Prop := (gp ≠ gi ∧ gs ≠ gi ∧ gv ≠ gi ∧ gx ≠ gi ∧ gl ≠ gi ∧ gd ≠ gi ∧ gr ≠ gi ∧ gk ≠ gi) ∧ (gp ≠ gk ∧ gs ≠ gk ∧ gv ≠ gk ∧ gx ≠ gk ∧ gl ≠ gk ∧ gd ≠ gk ∧ gr ≠ gk ∧ gi ≠ gk) ∧ B ≤ gi ∧ B ≤ gk ∧ (gp ≠ gr ∧ gs ≠ gr ∧ gv ≠ gr ∧ gd ≠ gr ∧ gi ≠ gr) ∧ B ≤ gr
section
variable {w0 W W' : World} {p v : Nat → Bool} {st x z : Nat → Int} {n gp gs gv gx gl gd gr gi gk k : Nat} {D : Nat → Nat} {S : Nat → Cn}
theorem MW.below (h : MW w0 p v st x z n gp gs gv gx gl gd gr gi gk D S k W) (hb : Below W.heap.size W W') : MW w0 p v st x z n gp gs gv gx gl gd gr gi gk D S k W' :=
  ⟨h.bp.below hb h.bp.lt, h.bs.below hb h.bs.lt, h.bv.below hb h.bv.lt, h.bx.below hb h.bx.lt, h.l.below hb h.l.lt, h.d.below hb h.d.lt, h.r.below hb h.r.lt, fun i hi => (h.a i hi).below hb, h.i.below hb h.i.lt, h.c.below hb h.c.lt, h.b.trans (hb.mono h.b.size)⟩
end
/-- Half a step: the index is laid. -/
structure MI (w0 : World) (p v : Nat → Bool) (st x z : Nat → Int) (n gp gs gv gx gl gd gr gi gk : Nat) (D : Nat → Nat) (S : Nat → Cn) (k : Nat) (W : World) : Prop where
  bp : Tab W gp 22 1 4 (fun i _ => .bool (p i))
  bs : Tab W gs 23 1 4 (fun i _ => .int .u8 (st i))
  bv : Tab W gv 22 1 4 (fun i _ => .bool (v i))
  bx : Tab W gx 25 1 4 (fun i _ => .int .u16 (x i))
  l : Tab W gl 21 1 n (fun i _ => .int .i32 (z i))
  d : Tab W gd 57 1 n (dF D n)
  r : Tab W gr 62 2 n (rF D z n)
  a : ∀ i, i < n → Cel W (D i)
  i : Tab W gi 33 1 4 (iF x n (k + 1))
  c : Tab W gk 47 18 4 (kF S k)
  b : Below w0.heap.size w0 W
section
variable {w0 W W' : World} {p v : Nat → Bool} {st x z : Nat → Int} {n gp gs gv gx gl gd gr gi gk k : Nat} {D : Nat → Nat} {S : Nat → Cn}
theorem MI.below (h : MI w0 p v st x z n gp gs gv gx gl gd gr gi gk D S k W) (hb : Below W.heap.size W W') : MI w0 p v st x z n gp gs gv gx gl gd gr gi gk D S k W' :=
  ⟨h.bp.below hb h.bp.lt, h.bs.below hb h.bs.lt, h.bv.below hb h.bv.lt, h.bx.below hb h.bx.lt, h.l.below hb h.l.lt, h.d.below hb h.d.lt, h.r.below hb h.r.lt, fun i hi => (h.a i hi).below hb, h.i.below hb h.i.lt, h.c.below hb h.c.lt, h.b.trans (hb.mono h.b.size)⟩
theorem MW.index (h : MW w0 p v st x z n gp gs gv gx gl gd gr gi gk D S k W) (hk : k < 4) (ne : NE w0.heap.size gp gs gv gx gl gd gr gi gk) : MI w0 p v st x z n gp gs gv gx gl gd gr gi gk D S k (W.setCell ⟨gi, k, none⟩ (.int .i64 (x k % n))) := by
  obtain ⟨⟨e1, e2, e3, e4, e5, e6, e7, e8⟩, -, hB, -⟩ := ne
  exact ⟨h.bp.far (p := ⟨gi, k, none⟩) e1 _, h.bs.far (p := ⟨gi, k, none⟩) e2 _, h.bv.far (p := ⟨gi, k, none⟩) e3 _, h.bx.far (p := ⟨gi, k, none⟩) e4 _, h.l.far (p := ⟨gi, k, none⟩) e5 _, h.d.far (p := ⟨gi, k, none⟩) e6 _, h.r.far (p := ⟨gi, k, none⟩) e7 _, fun i hi => (h.a i hi).setCell _ _ _, iF_step h.i hk, h.c.far (p := ⟨gi, k, none⟩) e8 _, h.b.setCell hB _⟩
theorem tabSC {t Sz m : Nat} {g : Nat} {f : Nat → Nat → Value} (h : Tab W g t Sz m f) (hg : g ≠ gk) (o : Nat) (vs : List Value) : Tab (W.setCells gk o vs) g t Sz m f := h.kept (heap_setCells W gk vs o g hg)
theorem MI.corner (h : MI w0 p v st x z n gp gs gv gx gl gd gr gi gk D S k W) (hk : k < 4) (ne : NE w0.heap.size gp gs gv gx gl gd gr gi gk) : MW w0 p v st x z n gp gs gv gx gl gd gr gi gk D S (k + 1) (W.setCells gk (k * 18) (cl (S k))) := by
  obtain ⟨-, ⟨e1, e2, e3, e4, e5, e6, e7, e8⟩, -, hB, -⟩ := ne
  exact ⟨tabSC h.bp e1 _ _, tabSC h.bs e2 _ _, tabSC h.bv e3 _ _, tabSC h.bx e4 _ _, tabSC h.l e5 _ _, tabSC h.d e6 _ _, tabSC h.r e7 _ _, fun i hi => (h.a i hi).setCells _ _ _, tabSC h.i e8 _ _, kF_step h.c hk, below_setCells h.b hB _ _⟩
end
/-- The corners, but for the k-th. -/
def KG (gk k : Nat) (S : Nat → Cn) (W : World) : Prop := ∃ f, Tab W gk 47 18 4 f ∧ ∀ i j, i < 4 → j < 18 → i ≠ k → f i j = kF S k i j
theorem KG.below {gk k : Nat} {S : Nat → Cn} {W W' : World} (h : KG gk k S W) (hb : Below W.heap.size W W') : KG gk k S W' := by
  obtain ⟨f, h1, h2⟩ := h
  exact ⟨f, h1.below hb h1.lt, h2⟩
theorem KG.put {gk k : Nat} {S : Nat → Cn} {W : World} (h : KG gk k S W) (hk : k < 4) (vs : List Value) (hl : vs.length = 18) : KG gk k S (W.setCells gk (k * 18) vs) := by
  obtain ⟨f, h1, h2⟩ := h
  exact ⟨_, h1.row hk vs hl, fun i j hi hj e => by show (if i = k then _ else f i j) = _; rw [if_neg e]; exact h2 i j hi hj e⟩
theorem KG.fin {gk k : Nat} {S : Nat → Cn} {W : World} (h : KG gk k S W) (hk : k < 4) : Tab (W.setCells gk (k * 18) (cl (S k))) gk 47 18 4 (kF S (k + 1)) := by
  obtain ⟨f, h1, h2⟩ := h
  refine (h1.row hk (cl (S k)) (cl_len _)).ext fun i j hi hj => ?_
  show (if i = k then _ else f i j) = _
  by_cases e : i = k
  · subst e
    rw [if_pos rfl]
    unfold kF
    rw [if_pos (by omega)]
  · rw [if_neg e, h2 i j hi hj e]
    unfold kF
    by_cases e2 : i < k
    · rw [if_pos e2, if_pos (by omega)]
    · rw [if_neg e2, if_neg (by omega)]
theorem KG.there {gk k : Nat} {S : Nat → Cn} {W : World} (h : KG gk k S W) (hk : k < 4) : W.there gk (k * 18) 18 := by
  obtain ⟨f, h1, -⟩ := h
  exact h1.there hk
theorem cellSC (w : World) (b o : Nat) (vs : List Value) (g i : Nat) (h : g ≠ b) : (w.setCells b o vs).cell? ⟨g, i, none⟩ = w.cell? ⟨g, i, none⟩ := by
  have := heap_setCells w b vs o g h
  simp [World.cell?, this]
/-- What the making of a corner needs of memory. -/
def GJ (wr : World) (tb gv gi gk k : Nat) (S : Nat → Cn) (T : ByteArray) (K xm : Int) (b : Bool) (w' : World) : Prop :=
  Kept wr.heap.size gk wr w' ∧ tb < wr.heap.size ∧ gv < wr.heap.size ∧ gi < wr.heap.size ∧ gk < wr.heap.size ∧ (tb ≠ gk ∧ gv ≠ gk ∧ gi ≠ gk) ∧ w'.cell? ⟨tb, 0, none⟩ = some (.pointer none) ∧ w'.cell? ⟨tb, 1, none⟩ = some (.string T) ∧ w'.cell? ⟨tb, 2, none⟩ = some (.int .i32 0) ∧ w'.cell? ⟨tb, 3, none⟩ = some (.int .u32 0) ∧ w'.cell? ⟨tb, 4, none⟩ = some (.int .u16 0) ∧ w'.cell? ⟨tb, 5, none⟩ = some (.int .u8 K) ∧ w'.cell? ⟨tb, 6, none⟩ = some (.int .u8 0) ∧ w'.cell? ⟨gv, k, none⟩ = some (.bool b) ∧ w'.cell? ⟨gi, k, none⟩ = some (.int .i64 xm) ∧ KG gk k S w'
theorem GJ.step {wr : World} {tb gv gi gk k : Nat} {S : Nat → Cn} {T : ByteArray} {K xm : Int} {b : Bool} {w1 w2 : World} (h : GJ wr tb gv gi gk k S T K xm b w1) (hb : Below w1.heap.size w1 w2) : GJ wr tb gv gi gk k S T K xm b w2 := by
  obtain ⟨h0, h1, h2, h3, h4, hn, x0, x1, x2, x3, x4, x5, x6, x7, x8, x9⟩ := h
  have e1 : tb < w1.heap.size := Nat.lt_of_lt_of_le h1 h0.size
  have e2 : gv < w1.heap.size := Nat.lt_of_lt_of_le h2 h0.size
  have e3 : gi < w1.heap.size := Nat.lt_of_lt_of_le h3 h0.size
  exact ⟨h0.next h0.size hb, h1, h2, h3, h4, hn, (hb.cell e1).trans x0, (hb.cell e1).trans x1, (hb.cell e1).trans x2, (hb.cell e1).trans x3, (hb.cell e1).trans x4, (hb.cell e1).trans x5, (hb.cell e1).trans x6, (hb.cell e2).trans x7, (hb.cell e3).trans x8, x9.below hb⟩
theorem GJ.put {wr : World} {tb gv gi gk k : Nat} {S : Nat → Cn} {T : ByteArray} {K xm : Int} {b : Bool} {w1 : World} (h : GJ wr tb gv gi gk k S T K xm b w1) (hk : k < 4) (vs : List Value) (hl : vs.length = 18) : GJ wr tb gv gi gk k S T K xm b (w1.setCells gk (k * 18) vs) := by
  obtain ⟨h0, h1, h2, h3, h4, ⟨n1, n2, n3⟩, x0, x1, x2, x3, x4, x5, x6, x7, x8, x9⟩ := h
  have c1 := fun i => cellSC w1 gk (k * 18) vs tb i n1
  exact ⟨kept_setCells h0 vs _, h1, h2, h3, h4, ⟨n1, n2, n3⟩, (c1 0).trans x0, (c1 1).trans x1, (c1 2).trans x2, (c1 3).trans x3, (c1 4).trans x4, (c1 5).trans x5, (c1 6).trans x6, (cellSC w1 gk (k * 18) vs gv k n2).trans x7, (cellSC w1 gk (k * 18) vs gi k n3).trans x8, x9.put hk vs hl⟩
theorem GJ.sto {wr : World} {tb gv gi gk k : Nat} {S : Nat → Cn} {T : ByteArray} {K xm : Int} {b : Bool} {w1 : World} (h : GJ wr tb gv gi gk k S T K xm b w1) (hk : k < 4) {D : List Value} (hl : D.length = 18) (h1 : ∀ u ∈ D, u.oneCell' = true) : (storeCells ⟨gk, k * 18, none⟩ D).run Try.prog w1 = .ok () (w1.setCells gk (k * 18) D) :=
  ZT.sto (by rw [hl]; exact (h.2.2.2.2.2.2.2.2.2.2.2.2.2.2.2).there hk) h1
theorem GJ.fin {wr : World} {tb gv gi gk k : Nat} {S : Nat → Cn} {T : ByteArray} {K xm : Int} {b : Bool} {w1 : World} (h : GJ wr tb gv gi gk k S T K xm b w1) : Kept wr.heap.size gk wr w1 ∧ KG gk k S w1 := ⟨h.1, h.2.2.2.2.2.2.2.2.2.2.2.2.2.2.2⟩
theorem MI.kept {w0 W W' : World} {p v : Nat → Bool} {st x z : Nat → Int} {n gp gs gv gx gl gd gr gi gk k : Nat} {D : Nat → Nat} {S : Nat → Cn} (h : MI w0 p v st x z n gp gs gv gx gl gd gr gi gk D S k W) (hk : k < 4) (ne : NE w0.heap.size gp gs gv gx gl gd gr gi gk) (q : Kept W.heap.size gk W W' ∧ KG gk k S W') : MW w0 p v st x z n gp gs gv gx gl gd gr gi gk D S (k + 1) (W'.setCells gk (k * 18) (cl (S k))) := by
  obtain ⟨-, ⟨e1, e2, e3, e4, e5, e6, e7, e8⟩, -, hB, -⟩ := ne
  have kk := kept_setCells q.1 (cl (S k)) (k * 18)
  refine ⟨kk.tab h.bp h.bp.lt e1, kk.tab h.bs h.bs.lt e2, kk.tab h.bv h.bv.lt e3, kk.tab h.bx h.bx.lt e4, kk.tab h.l h.l.lt e5, kk.tab h.d h.d.lt e6, kk.tab h.r h.r.lt e7, fun i hi => ?_, kk.tab h.i h.i.lt e8, q.2.fin hk, h.b.trans (kk.below h.b.size hB)⟩
  obtain ⟨cs, hc⟩ := h.a i hi
  refine ⟨cs, kk.blk hc hc.lt fun e => ?_⟩
  obtain ⟨cs2, hc2, -⟩ := h.c
  rw [e] at hc
  have := hc.symm.trans hc2
  simp at this
theorem MW.apart {w0 W W' : World} {p v : Nat → Bool} {st x z : Nat → Int} {n gp gs gv gx gl gd gr gi gk k : Nat} {D : Nat → Nat} {S : Nat → Cn} (h : MW w0 p v st x z n gp gs gv gx gl gd gr gi gk D S k W) {i : Nat} (hi : i < n) : D i ≠ gr := by
  intro e
  obtain ⟨cs, hc⟩ := h.a i hi
  obtain ⟨cs2, hc2, -⟩ := h.r
  rw [e] at hc
  have := hc.symm.trans hc2
  simp at this
end Go.Proofs.Ytnolnlekdlfeaaa.ZT
