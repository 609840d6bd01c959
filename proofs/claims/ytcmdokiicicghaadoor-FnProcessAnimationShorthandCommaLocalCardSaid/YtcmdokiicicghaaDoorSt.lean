/- The state of a parser whose table of names is known, and what leaves it alone. -/
import Derived.Test.YtcmdokiicicghaaDoorNm
import Derived.Deep.RegionWith
namespace Go.Proofs.YtcmdokiicicghaaDoor.SY
open Go Go.RowKit Go.Lib Go.Proofs.YtcmdokiicicghaaDoor.MP Go.Proofs.YtcmdokiicicghaaDoor.TB
set_option linter.unusedVariables false
theorem below_drewN {B : Nat} {a w : World} (h : Below B a w) (n : Nat) : Below B a (w.drewN n) := ⟨h.os, h.tape, h.output, h.size, h.block⟩
/-- The parser's table; what the call was given is as it was. -/
structure St (W0 w : World) (pb mb : Nat) (ml : Bool) (L : List Ent) : Prop where
  tab : ∃ f sv lv, PS w W0.heap.size pb mb ml L L (if ml then L else []) f sv lv
  bel : Below W0.heap.size W0 w
/-- No block that existed has changed but tb and the parser's own. -/
def Oth (tb : Nat) (w w' : World) : Prop := ∀ (g : Nat) (c : Array Value) (ty : TypeId) (fr : Nat × Nat), w.heap[g]? = some (.cells c ty fr) → ty ≠ TP → ty ≠ TS → ty ≠ TL → g ≠ tb → w'.heap[g]? = w.heap[g]?
theorem lt_some {w : World} {g : Nat} {o : Obj} (h : w.heap[g]? = some o) : g < w.heap.size := (Array.getElem?_eq_some_iff.1 h).1
theorem Oth.refl (tb : Nat) (w : World) : Oth tb w w := fun _ _ _ _ _ _ _ _ _ => rfl
theorem Oth.below {tb : Nat} {w w' : World} (hb : Below w.heap.size w w') : Oth tb w w' := fun g c ty fr hg _ _ _ _ => hb.block g (lt_some hg)
theorem Oth.set {tb : Nat} {w : World} (j : Nat) (u : Value) : Oth tb w (w.setCell ⟨tb, j, none⟩ u) := fun g c ty fr hg _ _ _ hne => Below.heap_setCell w ⟨tb, j, none⟩ u g hne
theorem Oth.trans {tb : Nat} {w w' w'' : World} (h : Oth tb w w') (k : Oth tb w' w'') : Oth tb w w'' :=
  fun g c ty fr hg h1 h2 h3 h4 => (k g c ty fr ((h g c ty fr hg h1 h2 h3 h4).trans hg) h1 h2 h3 h4).trans (h g c ty fr hg h1 h2 h3 h4)
theorem St.below {W0 w w' : World} {pb mb : Nat} {ml : Bool} {L : List Ent} (h : St W0 w pb mb ml L) (hb : Below w.heap.size w w') : St W0 w' pb mb ml L :=
  ⟨let ⟨f, sv, lv, P⟩ := h.tab; ⟨f, sv, lv, P.below hb⟩, h.bel.trans (hb.mono h.bel.size)⟩
theorem St.drewN {W0 w : World} {pb mb : Nat} {ml : Bool} {L : List Ent} (h : St W0 w pb mb ml L) (n : Nat) : St W0 (w.drewN n) pb mb ml L :=
  ⟨let ⟨f, sv, lv, P⟩ := h.tab; ⟨f, sv, lv, P.drewN n⟩, below_drewN h.bel n⟩
theorem St.alloc {W0 w : World} {pb mb : Nat} {ml : Bool} {L : List Ent} (h : St W0 w pb mb ml L) (o : Obj) : St W0 (w.alloc o) pb mb ml L := h.below ((Below.refl _ _).alloc (Nat.le_refl _) o)
theorem St.size {W0 w : World} {pb mb : Nat} {ml : Bool} {L : List Ent} (h : St W0 w pb mb ml L) : W0.heap.size ≤ w.heap.size := h.bel.size
theorem St.setAt {W0 w : World} {pb mb tb : Nat} {ml : Bool} {L : List Ent} {c : Array Value} {ty : TypeId} {fr : Nat × Nat} (h : St W0 w pb mb ml L) (hT : w.heap[tb]? = some (.cells c ty fr)) (h1 : ty ≠ TP) (h2 : ty ≠ TS) (h3 : ty ≠ TL) (htb : W0.heap.size ≤ tb) (j : Nat) (u : Value) : St W0 (w.setCell ⟨tb, j, none⟩ u) pb mb ml L := by
  obtain ⟨f, sv, lv, P⟩ := h.tab
  refine ⟨⟨f, sv, lv, P.set_away (p := ⟨tb, j, none⟩) u htb ?_ ?_ ?_ ?_⟩, h.bel.setCell htb _⟩
  · rintro rfl
    obtain ⟨c', hc, -⟩ := P.par
    rw [hT] at hc
    simp at hc
    exact h1 hc.2.1
  · rintro rfl
    have := P.sm
    unfold SMap at this
    rw [hT] at this
    cases this
  · intro hv
    obtain ⟨c', hc⟩ := own_at P.sy hv
    rw [hT] at hc
    simp at hc
    exact h2 hc.2.1
  · intro hv
    obtain ⟨c', hc⟩ := own_at P.lc hv
    rw [hT] at hc
    simp at hc
    exact h3 hc.2.1
theorem St.setTab {W0 w : World} {pb mb tb n : Nat} {ml : Bool} {L : List Ent} {F : Nat → Nat → Value} (h : St W0 w pb mb ml L) (hT : Tab w tb TT 7 n F) (htb : W0.heap.size ≤ tb) (j : Nat) (u : Value) : St W0 (w.setCell ⟨tb, j, none⟩ u) pb mb ml L := by
  obtain ⟨cs, hb, -, -⟩ := hT
  exact h.setAt hb (by decide) (by decide) (by decide) htb j u
theorem tab_oth {w w' : World} {g tb n : Nat} {F : Nat → Nat → Value} (h : Tab w g TT 7 n F) (o : Oth tb w w') (hne : g ≠ tb) : Tab w' g TT 7 n F := by
  obtain ⟨cs, hb, h2⟩ := h
  exact ⟨cs, (o g _ _ _ hb (by decide) (by decide) (by decide) hne).trans hb, h2⟩
/-- symbolForName out of the state. -/
def SyP (W0 w : World) (pb mb : Nat) (ml : Bool) (L : List Ent) (i : Nat) (e : Ending) (w' : World) : Prop :=
  (∃ l0 : Int, e = .returned (.agg #[.int .i32 l0, .int .u32 0, .int .u32 i])) ∧ St W0 w' pb mb ml L ∧ (∀ (g : Nat) (c : Array Value) (ty : TypeId) (fr : Nat × Nat), w.heap[g]? = some (.cells c ty fr) → ty ≠ TP → ty ≠ TS → ty ≠ TL → w'.heap[g]? = w.heap[g]?)
theorem sym_st {W0 w : World} {pb mb : Nat} {ml : Bool} {L : List Ent} (nm : ByteArray) (n : Nat) (h : St W0 w pb mb ml L) (hs : Small L n) (hn : n ≤ 16777216) :
    Calls Tryd.prog 43 #[.pointer (some ⟨pb, 0, none⟩), .agg #[.int .i32 0], .string nm] w (SyP W0 w pb mb ml (tick L nm) (spot L nm)) := by
  obtain ⟨f, sv, lv, P⟩ := h.tab
  exact (sym_any w _ pb mb ml L f sv lv nm n P hs hn).mono fun e w' hq => ⟨hq.1, ⟨hq.2.1, h.bel.trans hq.2.2.below⟩, hq.2.2.oth⟩
theorem fld_ref (a b c : Int) (w : World) : (Instr.field TL (.agg #[.int .i32 a, .int .u32 b, .int .u32 c]) 1).run Tryd.prog w = .ok (.agg #[.int .u32 b, .int .u32 c]) w := by kernel_rfl
theorem fld_inner (b c : Int) (w : World) : (Instr.field 104 (.agg #[.int .u32 b, .int .u32 c]) 1).run Tryd.prog w = .ok (.int .u32 c) w := by kernel_rfl
/-- The reference that names nothing, as it was laid. -/
def GR (w : World) : Prop := GI < w.heap.size ∧ w.cell? ⟨GI, 0, none⟩ = some (.int .u32 4294967295) ∧ w.cell? ⟨GI, 1, none⟩ = some (.int .u32 4294967295)
theorem GR.below {B : Nat} {w w' : World} (h : GR w) (hB : w.heap.size ≤ B) (hb : Below B w w') : GR w' :=
  ⟨Nat.lt_of_lt_of_le h.1 hb.size, by rw [hb.cell (p := ⟨GI, 0, none⟩) (Nat.lt_of_lt_of_le h.1 hB)]; exact h.2.1, by rw [hb.cell (p := ⟨GI, 1, none⟩) (Nat.lt_of_lt_of_le h.1 hB)]; exact h.2.2⟩
def NewS (W0 w : World) (ml : Bool) (e : Ending) (w' : World) : Prop := ∃ pb mb, e = .returned (.pointer (some ⟨pb, 0, none⟩)) ∧ St W0 w' pb mb ml [] ∧ Below w.heap.size w w' ∧ w.heap.size ≤ pb
theorem new_st (ml : Bool) {W0 w : World} (hG : GR W0) (hb : Below W0.heap.size W0 w) : Calls Tryd.prog 15 #[.bool ml] w (NewS W0 w ml) := by
  have h := hG.below (Nat.le_refl _) hb
  refine (newp ml w W0.heap.size h.2.1 h.2.2 hG.1 hb.size).mono ?_
  rintro e w' ⟨pb, mb, f, rfl, P, hb', hp, -⟩
  exact ⟨pb, mb, rfl, ⟨⟨f, _, _, by cases ml <;> exact P⟩, hb.trans (hb'.mono hb.size)⟩, hb', hp⟩
section
variable {W0 w : World} {pb mb : Nat} {ml : Bool} {L : List Ent}
theorem symN_st (h : St W0 w pb mb ml L) : Calls Tryd.prog 29 #[.pointer (some ⟨pb, 0, none⟩)] w (IntIs L.length w) := let ⟨_, _, _, P⟩ := h.tab; symN P
theorem locN_st (h : St W0 w pb mb ml L) : Calls Tryd.prog 33 #[.pointer (some ⟨pb, 0, none⟩)] w (IntIs (if ml then (L.length : Int) else 0) w) := by
  obtain ⟨_, _, _, P⟩ := h.tab
  have := locN P
  cases ml <;> exact this
theorem name_st (h : St W0 w pb mb ml L) (i : Nat) (e : Ent) (he : L[i]? = some e) (hm : L.length ≤ 16777216) : Calls Tryd.prog 30 #[.pointer (some ⟨pb, 0, none⟩), .int .i64 i] w (StrIs e.nm w) := let ⟨_, _, _, P⟩ := h.tab; symName P i e he hm
end
end Go.Proofs.YtcmdokiicicghaaDoor.SY
