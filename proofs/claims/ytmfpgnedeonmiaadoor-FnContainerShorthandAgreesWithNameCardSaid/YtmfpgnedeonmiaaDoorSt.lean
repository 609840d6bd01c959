/- The state of a parser whose table of names is known, and what leaves it alone; two parsers beside each other. -/
import Derived.Test.YtmfpgnedeonmiaaDoorNm
import Derived.Deep.RegionWith
namespace Go.Proofs.YtmfpgnedeonmiaaDoor.SY
open Go Go.RowKit Go.Lib Go.Proofs.YtmfpgnedeonmiaaDoor.MP Go.Proofs.YtmfpgnedeonmiaaDoor.TB
set_option linter.unusedVariables false
theorem below_drewN {B : Nat} {a w : World} (h : Below B a w) (n : Nat) : Below B a (w.drewN n) := ⟨h.os, h.tape, h.output, h.size, h.block⟩
theorem lt_some {w : World} {g : Nat} {o : Obj} (h : w.heap[g]? = some o) : g < w.heap.size := (Array.getElem?_eq_some_iff.1 h).1
/-- Other blocks may be named. -/
theorem PS.wide {X Y : Nat → Prop} {w : World} {B pb mb : Nat} {ml : Bool} {Lm Ls Ll : List Ent} {f : Nat → Value} (h : PS X w B pb mb ml Lm Ls Ll f (.slice none 0 0) (.slice none 0 0)) (hp : Y pb) (hm : Y mb) : PS Y w B pb mb ml Lm Ls Ll f (.slice none 0 0) (.slice none 0 0) :=
  { h with xp := hp, xm := hm, xs := OwnIn.none _ _ _, xl := OwnIn.none _ _ _ }
theorem PS.cap {X : Nat → Prop} {w : World} {B pb mb : Nat} {ml : Bool} {Lm Ls Ll : List Ent} {f : Nat → Value} {sv lv : Value} (h : PS X w B pb mb ml Lm Ls Ll f sv lv) : PS (fun g => X g ∧ g < w.heap.size) w B pb mb ml Lm Ls Ll f sv lv :=
  { h with xp := ⟨h.xp, h.par.lt⟩, xm := ⟨h.xm, h.sm.lt⟩, xs := fun g hv => ⟨h.xs g hv, (h.sy.lt g hv).2⟩, xl := fun g hv => ⟨h.xl g hv, (h.lc.lt g hv).2⟩ }
theorem PS.keptX {X : Nat → Prop} {w w' : World} {B pb mb : Nat} {ml : Bool} {Lm Ls Ll : List Ent} {f : Nat → Value} {sv lv : Value} (h : PS X w B pb mb ml Lm Ls Ll f sv lv) (hs : ∀ g, X g → w'.heap[g]? = w.heap[g]?) (hg : w'.heap[GI]? = w.heap[GI]?) : PS X w' B pb mb ml Lm Ls Ll f sv lv :=
  { h with
    g0 := by rw [World.cell?_of_block (w := w) (w' := w') hg]; exact h.g0
    g1 := by rw [World.cell?_of_block (w := w) (w' := w') hg]; exact h.g1
    par := h.par.of_block (hs _ h.xp)
    sm := h.sm.kept (hs _ h.xm)
    sy := ownsRow_of h.sy fun g hv => hs g (h.xs g hv)
    lc := ownsRow_of h.lc fun g hv => hs g (h.xl g hv) }
/-- The parser's table; what the call was given is as it was; X says which blocks may change from here on. -/
structure St (X : Nat → Prop) (W0 w : World) (pb mb : Nat) (ml : Bool) (L : List Ent) : Prop where
  tab : ∃ f sv lv, PS X w W0.heap.size pb mb ml L L (if ml then L else []) f sv lv
  bel : Below W0.heap.size W0 w
  top : ∀ g, w.heap.size ≤ g → X g
/-- No block has changed but those of X. -/
def Oth (X : Nat → Prop) (w w' : World) : Prop := ∀ g, ¬ X g → w'.heap[g]? = w.heap[g]?
theorem Oth.refl (X : Nat → Prop) (w : World) : Oth X w w := fun _ _ => rfl
theorem Oth.trans {X : Nat → Prop} {w w' w'' : World} (h : Oth X w w') (k : Oth X w' w'') : Oth X w w'' := fun g hg => (k g hg).trans (h g hg)
theorem Oth.below {X : Nat → Prop} {w w' : World} (ht : ∀ g, w.heap.size ≤ g → X g) (hb : Below w.heap.size w w') : Oth X w w' := fun g hg => hb.block g (Nat.lt_of_not_le fun hl => hg (ht g hl))
theorem Oth.set {X : Nat → Prop} {tb : Nat} {w : World} (hx : X tb) (j : Nat) (u : Value) : Oth X w (w.setCell ⟨tb, j, none⟩ u) := fun g hg => Below.heap_setCell w ⟨tb, j, none⟩ u g (fun e => hg (by rw [e]; exact hx))
section
variable {X : Nat → Prop} {W0 w w' : World} {pb mb : Nat} {ml : Bool} {L : List Ent}
theorem St.below (h : St X W0 w pb mb ml L) (hb : Below w.heap.size w w') : St X W0 w' pb mb ml L :=
  ⟨let ⟨f, sv, lv, P⟩ := h.tab; ⟨f, sv, lv, P.below hb⟩, h.bel.trans (hb.mono h.bel.size), fun g hg => h.top g (Nat.le_trans hb.size hg)⟩
theorem St.drewN (h : St X W0 w pb mb ml L) (n : Nat) : St X W0 (w.drewN n) pb mb ml L :=
  ⟨let ⟨f, sv, lv, P⟩ := h.tab; ⟨f, sv, lv, P.drewN n⟩, below_drewN h.bel n, h.top⟩
theorem St.alloc (h : St X W0 w pb mb ml L) (o : Obj) : St X W0 (w.alloc o) pb mb ml L := h.below ((Below.refl _ _).alloc (Nat.le_refl _) o)
theorem St.size (h : St X W0 w pb mb ml L) : W0.heap.size ≤ w.heap.size := h.bel.size
theorem St.setAt {tb : Nat} {c : Array Value} {ty : TypeId} {fr : Nat × Nat} (h : St X W0 w pb mb ml L) (hT : w.heap[tb]? = some (.cells c ty fr)) (h1 : ty ≠ TP) (h2 : ty ≠ TS) (h3 : ty ≠ TL) (htb : W0.heap.size ≤ tb) (j : Nat) (u : Value) : St X W0 (w.setCell ⟨tb, j, none⟩ u) pb mb ml L := by
  obtain ⟨f, sv, lv, P⟩ := h.tab
  refine ⟨⟨f, sv, lv, P.set_away (p := ⟨tb, j, none⟩) u htb ?_ ?_ ?_ ?_⟩, h.bel.setCell htb _, fun g hg => h.top g (by simpa using hg)⟩
  · rintro rfl
    obtain ⟨c', hc, -⟩ := P.par
    rw [hT] at hc
    simp at hc
    exact h1 hc.2.1
  · rintro rfl
    have := P.sm
    unfold SMap at this
    rw [hT] at this
    cases this
  · intro hv
    obtain ⟨c', hc⟩ := own_at P.sy hv
    rw [hT] at hc
    simp at hc
    exact h2 hc.2.1
  · intro hv
    obtain ⟨c', hc⟩ := own_at P.lc hv
    rw [hT] at hc
    simp at hc
    exact h3 hc.2.1
theorem St.setTab {tb n : Nat} {F : Nat → Nat → Value} (h : St X W0 w pb mb ml L) (hT : Tab w tb TT 7 n F) (htb : W0.heap.size ≤ tb) (j : Nat) (u : Value) : St X W0 (w.setCell ⟨tb, j, none⟩ u) pb mb ml L := by
  obtain ⟨cs, hb, -, -⟩ := hT
  exact h.setAt hb (by decide) (by decide) (by decide) htb j u
/-- symbolForName out of the state. -/
def SyP (X : Nat → Prop) (W0 w : World) (pb mb : Nat) (ml : Bool) (L : List Ent) (i : Nat) (e : Ending) (w' : World) : Prop :=
  (∃ l0 : Int, e = .returned (.agg #[.int .i32 l0, .int .u32 0, .int .u32 i])) ∧ St X W0 w' pb mb ml L ∧ (∀ (g : Nat) (c : Array Value) (ty : TypeId) (fr : Nat × Nat), w.heap[g]? = some (.cells c ty fr) → ty ≠ TP → ty ≠ TS → ty ≠ TL → w'.heap[g]? = w.heap[g]?) ∧ Oth X w w'
theorem sym_st (nm : ByteArray) (n : Nat) (h : St X W0 w pb mb ml L) (hs : Small L n) (hn : n ≤ 16777216) :
    Calls Tryd.prog 29 #[.pointer (some ⟨pb, 0, none⟩), .agg #[.int .i32 0], .string nm] w (SyP X W0 w pb mb ml (tick L nm) (spot L nm)) := by
  obtain ⟨f, sv, lv, P⟩ := h.tab
  exact (sym_any X w _ pb mb ml L f sv lv nm n P h.top hs hn).mono fun e w' hq => ⟨hq.1, ⟨hq.2.1, h.bel.trans hq.2.2.below, hq.2.2.top'⟩, hq.2.2.oth, hq.2.2.side⟩
end
theorem fld_ref (a b c : Int) (w : World) : (Instr.field TL (.agg #[.int .i32 a, .int .u32 b, .int .u32 c]) 1).run Tryd.prog w = .ok (.agg #[.int .u32 b, .int .u32 c]) w := by kernel_rfl
theorem fld_inner (b c : Int) (w : World) : (Instr.field 103 (.agg #[.int .u32 b, .int .u32 c]) 1).run Tryd.prog w = .ok (.int .u32 c) w := by kernel_rfl
/-- The reference that names nothing, as it was laid. -/
def GR (w : World) : Prop := GI < w.heap.size ∧ w.cell? ⟨GI, 0, none⟩ = some (.int .u32 4294967295) ∧ w.cell? ⟨GI, 1, none⟩ = some (.int .u32 4294967295)
theorem GR.below {B : Nat} {w w' : World} (h : GR w) (hB : w.heap.size ≤ B) (hb : Below B w w') : GR w' :=
  ⟨Nat.lt_of_lt_of_le h.1 hb.size, by rw [hb.cell (p := ⟨GI, 0, none⟩) (Nat.lt_of_lt_of_le h.1 hB)]; exact h.2.1, by rw [hb.cell (p := ⟨GI, 1, none⟩) (Nat.lt_of_lt_of_le h.1 hB)]; exact h.2.2⟩
/-- A new parser: its two blocks, and nothing else. -/
def NewS (W0 w : World) (ml : Bool) (e : Ending) (w' : World) : Prop := ∃ pb mb f, e = .returned (.pointer (some ⟨pb, 0, none⟩)) ∧ PS (fun g => g = pb ∨ g = mb) w' W0.heap.size pb mb ml [] [] [] f (.slice none 0 0) (.slice none 0 0) ∧ Below w.heap.size w w' ∧ w.heap.size ≤ pb ∧ w.heap.size ≤ mb
theorem new_st (ml : Bool) {W0 w : World} (hG : GR W0) (hb : Below W0.heap.size W0 w) : Calls Tryd.prog 8 #[.bool ml] w (NewS W0 w ml) := by
  have h := hG.below (Nat.le_refl _) hb
  refine (newp ml w W0.heap.size h.2.1 h.2.2 hG.1 hb.size).mono ?_
  rintro e w' ⟨pb, mb, f, rfl, P, hb', hp, hm⟩
  exact ⟨pb, mb, f, rfl, P.wide (.inl rfl) (.inr rfl), hb', hp, hm⟩
theorem NewS.st {X : Nat → Prop} {W0 w : World} {pb mb : Nat} {ml : Bool} {f : Nat → Value} (P : PS (fun g => g = pb ∨ g = mb) w W0.heap.size pb mb ml [] [] [] f (.slice none 0 0) (.slice none 0 0)) (hb : Below W0.heap.size W0 w) (hp : X pb) (hm : X mb) (ht : ∀ g, w.heap.size ≤ g → X g) : St X W0 w pb mb ml [] :=
  ⟨⟨f, _, _, by cases ml <;> exact P.wide hp hm⟩, hb, ht⟩
end Go.Proofs.YtmfpgnedeonmiaaDoor.SY
