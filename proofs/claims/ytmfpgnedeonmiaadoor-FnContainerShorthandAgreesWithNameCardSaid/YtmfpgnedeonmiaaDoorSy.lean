/- The table of symbols of a parser: what its memory holds, and how each step of symbolForName turns it. -/
import Derived.Test.YtmfpgnedeonmiaaDoorProg
import Derived.Test.YtmfpgnedeonmiaaDoorMp
import Derived.Deep.OwnRows
import Derived.Deep.AppendLies
import Derived.Laws.OwnMore
import Derived.WalkKit
import Derived.WalkLawsBesides
import Derived.WalkSpells
import Derived.Lib.Hide
import Derived.Below
namespace Go.Proofs.YtmfpgnedeonmiaaDoor.SY
open Go Go.RowKit Go.Lib Go.Proofs.YtmfpgnedeonmiaaDoor.MP
set_option linter.unusedVariables false
/-- A symbol: its name, where it was first seen, how often it is used. -/
structure Ent where
  nm : ByteArray
  loc : Int
  uses : Nat
def symc (kd : Int) (e : Ent) : List Value := [.pointer none, .string e.nm, .int .u32 4294967295, .int .u32 4294967295, .int .u32 e.uses, .int .u32 0, .int .u32 0, .int .u16 0, .int .u8 kd, .int .u8 0]
def locc (i : Nat) (e : Ent) : List Value := [.int .i32 e.loc, .int .u32 0, .int .u32 i]
def locs : List Ent → Nat → List Value
  | [], _ => []
  | e :: l, i => locc i e ++ locs l (i + 1)
def mapl : List Ent → Nat → List (ByteArray × Value)
  | [], _ => []
  | e :: l, i => (e.nm, .agg (locc i e).toArray) :: mapl l (i + 1)
def syms (kd : Int) : List Ent → List Value
  | [] => []
  | e :: l => symc kd e ++ syms kd l
def kindOf (ml : Bool) : Int := if ml then 26 else 25
theorem locs_snoc (l : List Ent) (e : Ent) (i : Nat) : locs (l ++ [e]) i = locs l i ++ locc (i + l.length) e := by
  induction l generalizing i with
  | nil => simp [locs]
  | cons a l ih => simp only [List.cons_append, locs, List.append_assoc, List.length_cons]; rw [ih, show i + 1 + l.length = i + (l.length + 1) by omega]
theorem mapl_snoc (l : List Ent) (e : Ent) (i : Nat) : mapl (l ++ [e]) i = mapl l i ++ [(e.nm, .agg (locc (i + l.length) e).toArray)] := by
  induction l generalizing i with
  | nil => simp [mapl]
  | cons a l ih => simp only [List.cons_append, mapl, List.length_cons]; rw [ih, show i + 1 + l.length = i + (l.length + 1) by omega]
theorem syms_snoc (kd : Int) (l : List Ent) (e : Ent) : syms kd (l ++ [e]) = syms kd l ++ symc kd e := by
  induction l with
  | nil => simp [syms]
  | cons a l ih => simp only [List.cons_append, syms, List.append_assoc]; rw [ih]
theorem syms_len (kd : Int) (l : List Ent) : (syms kd l).length = l.length * 10 := by
  induction l with
  | nil => rfl
  | cons a l ih => simp only [syms, List.length_append, ih, List.length_cons]; simp [symc]; omega
theorem locs_len (l : List Ent) (i : Nat) : (locs l i).length = l.length * 3 := by
  induction l generalizing i with
  | nil => rfl
  | cons a l ih => simp only [locs, List.length_append, ih, List.length_cons]; simp [locc]; omega
/-- The cell k of symbol i. -/
theorem syms_at (kd : Int) (l : List Ent) (i k : Nat) (hi : i < l.length) (hk : k < 10) : (syms kd l)[i * 10 + k]? = (symc kd l[i])[k]? := by
  induction l generalizing i with
  | nil => simp at hi
  | cons a l ih =>
    cases i with
    | zero => simp only [syms, Nat.zero_mul, Nat.zero_add]; rw [List.getElem?_append_left (by simp [symc]; omega)]; rfl
    | succ i =>
      simp only [syms]
      rw [List.getElem?_append_right (by simp [symc]; omega), show (i + 1) * 10 + k - (symc kd a).length = i * 10 + k by simp [symc]; omega, ih i (by simpa using hi)]
      simp
theorem syms_set (kd : Int) (l : List Ent) (i : Nat) (e : Ent) (u : Nat) (hi : l[i]? = some e) : (syms kd l).set (i * 10 + 4) (.int .u32 (u : Int)) = syms kd (l.set i { e with uses := u }) := by
  induction l generalizing i with
  | nil => simp at hi
  | cons a l ih =>
    cases i with
    | zero =>
      simp at hi
      subst hi
      simp only [syms, List.set_cons_zero, Nat.zero_mul, Nat.zero_add]
      rw [List.set_append_left _ _ (by simp [symc])]
      rfl
    | succ i =>
      simp only [List.getElem?_cons_succ] at hi
      simp only [syms, List.set_cons_succ]
      rw [List.set_append_right _ _ (by simp [symc]; omega), show (i + 1) * 10 + 4 - (symc kd a).length = i * 10 + 4 by simp [symc]; omega, ih i hi]
theorem look_none (l : List Ent) (s : ByteArray) (i : Nat) (h : ∀ e ∈ l, e.nm ≠ s) : mlook (mapl l i) s = none := by
  induction l generalizing i with
  | nil => rfl
  | cons a l ih =>
    simp only [mapl, mlook]
    rw [if_neg (fun e => h a (List.mem_cons_self ..) e.symm)]
    exact ih (i + 1) (fun e he => h e (List.mem_cons_of_mem _ he))
theorem look_first (l : List Ent) (s : ByteArray) (b i : Nat) (e : Ent) (hi : l[i]? = some e) (hn : e.nm = s) (hf : ∀ j e', j < i → l[j]? = some e' → e'.nm ≠ s) : mlook (mapl l b) s = some (.agg (locc (b + i) e).toArray) := by
  induction l generalizing b i with
  | nil => simp at hi
  | cons a l ih =>
    simp only [mapl, mlook]
    cases i with
    | zero => simp at hi; subst hi; rw [if_pos hn.symm]; rfl
    | succ i =>
      rw [if_neg (fun e2 => hf 0 a (by omega) rfl e2.symm)]
      rw [ih (b + 1) i (by simpa using hi) (fun j e' hj he' => hf (j + 1) e' (by omega) (by simpa using he')), show b + 1 + i = b + (i + 1) by omega]
/-- Block types. -/
abbrev TP : TypeId := 93
abbrev TS : TypeId := 109
abbrev TL : TypeId := 117
abbrev GI : Nat := 1
/-- What a slice holds as its own lies in X. -/
def OwnIn (X : Nat → Prop) (v : Value) : Prop := ∀ g, v.ownBlock = some g → X g
theorem OwnIn.none (X : Nat → Prop) (n c : Nat) : OwnIn X (.slice none n c) := fun g h => by cases h
theorem OwnIn.some {X : Nat → Prop} {g n c : Nat} (h : X g) : OwnIn X (.slice (Option.some ⟨g, 0, Option.none⟩) n c) := fun g' e => by simp [Value.ownBlock] at e; exact e ▸ h
/-- The parser's memory: the map holds Lm, the symbols Ls, the local symbols Ll. -/
structure PS (X : Nat → Prop) (w : World) (B pb mb : Nat) (ml : Bool) (Lm Ls Ll : List Ent) (f : Nat → Value) (sv lv : Value) : Prop where
  g0 : w.cell? ⟨GI, 0, none⟩ = some (.int .u32 4294967295)
  g1 : w.cell? ⟨GI, 1, none⟩ = some (.int .u32 4294967295)
  gB : GI < B
  par : w.rowIs pb TP 56 f
  hB : B ≤ pb
  hm : B ≤ mb
  f15 : f 15 = .int .u32 0
  f21 : f 21 = sv
  f23 : f 23 = lv
  fsc : f (if ml then 24 else 25) = .map (some mb)
  f54 : f 54 = .bool ml
  sm : SMap w mb (mapl Lm 0)
  sy : w.ownsRow B TS 10 sv Ls.length (syms (kindOf ml) Ls)
  lc : w.ownsRow B TL 3 lv Ll.length (locs Ll 0)
  xp : X pb
  xm : X mb
  xs : OwnIn X sv
  xl : OwnIn X lv
section
variable {X : Nat → Prop} {w w' : World} {B pb mb : Nat} {ml : Bool} {Lm Ls Ll : List Ent} {f : Nat → Value} {sv lv : Value}
theorem own_type {b : Nat} {t : TypeId} {n : Nat} {h : Nat → Value} (hr : w.rowIs b t n h) {e : TypeId} {size : Nat} {v : Value} {m : Nat} {xs : List Value} (ho : w.ownsRow B e size v m xs) (hne : t ≠ e) : v.ownBlock ≠ some b := by
  intro hv
  rcases ho.2 with ⟨rfl, -⟩ | ⟨g, cap, cur, rfl, -, hg, -⟩
  · cases hv
  · simp [Value.ownBlock] at hv
    subst hv
    obtain ⟨c, hc, -⟩ := hr
    rw [hc] at hg
    simp at hg
    exact hne hg.2
theorem own_own {e1 e2 : TypeId} {s1 s2 : Nat} {v1 v2 : Value} {m1 m2 : Nat} {x1 x2 : List Value} (h1 : w.ownsRow B e1 s1 v1 m1 x1) (h2 : w.ownsRow B e2 s2 v2 m2 x2) (hne : e1 ≠ e2) (g : Nat) (hv : v1.ownBlock = some g) : v2.ownBlock ≠ some g := by
  rcases h1.2 with ⟨rfl, -⟩ | ⟨g1, cap, cur, rfl, -, hg, -⟩
  · cases hv
  · simp [Value.ownBlock] at hv
    subst hv
    intro hv2
    rcases h2.2 with ⟨rfl, -⟩ | ⟨g2, cap2, cur2, rfl, -, hg2, -⟩
    · cases hv2
    · simp [Value.ownBlock] at hv2
      subst hv2
      rw [hg] at hg2
      simp at hg2
      exact hne hg2.2
theorem own_map {l : List (ByteArray × Value)} (hm : SMap w mb l) {e : TypeId} {size : Nat} {v : Value} {m : Nat} {xs : List Value} (ho : w.ownsRow B e size v m xs) : v.ownBlock ≠ some mb := by
  intro hv
  rcases ho.2 with ⟨rfl, -⟩ | ⟨g, cap, cur, rfl, -, hg, -⟩
  · cases hv
  · simp [Value.ownBlock] at hv
    subst hv
    unfold SMap at hm
    rw [hm] at hg
    cases hg
theorem row_map {l : List (ByteArray × Value)} (hm : SMap w mb l) {b : Nat} {t : TypeId} {n : Nat} {h : Nat → Value} (hr : w.rowIs b t n h) : b ≠ mb := by
  rintro rfl
  obtain ⟨c, hc, -⟩ := hr
  unfold SMap at hm
  rw [hm] at hc
  cases hc
theorem ownsRow_of {e : TypeId} {size : Nat} {v : Value} {m : Nat} {xs : List Value} (ho : w.ownsRow B e size v m xs) (hk : ∀ g, v.ownBlock = some g → w'.heap[g]? = w.heap[g]?) : w'.ownsRow B e size v m xs := by
  refine ⟨ho.1, ?_⟩
  rcases ho.2 with h | ⟨g, cap, cur, rfl, hb, hg, r⟩
  · exact .inl h
  · exact .inr ⟨g, cap, cur, rfl, hb, (hk g rfl).trans hg, r⟩
/-- What does not touch the parser's blocks. -/
theorem PS.kept (h : PS X w B pb mb ml Lm Ls Ll f sv lv) (hs : ∀ g, g < w.heap.size → w'.heap[g]? = w.heap[g]?) : PS X w' B pb mb ml Lm Ls Ll f sv lv := by
  have hg : w'.heap[GI]? = w.heap[GI]? := hs _ (Nat.lt_of_lt_of_le h.gB (Nat.le_trans h.hB (Nat.le_of_lt h.par.lt)))
  exact { h with
    g0 := by rw [World.cell?_of_block (w := w) (w' := w') hg]; exact h.g0
    g1 := by rw [World.cell?_of_block (w := w) (w' := w') hg]; exact h.g1
    par := h.par.of_block (hs _ h.par.lt)
    sm := h.sm.kept (hs _ h.sm.lt)
    sy := ownsRow_of h.sy fun g hv => hs g (h.sy.lt g hv).2
    lc := ownsRow_of h.lc fun g hv => hs g (h.lc.lt g hv).2 }
theorem PS.alloc (h : PS X w B pb mb ml Lm Ls Ll f sv lv) (o : Obj) : PS X (w.alloc o) B pb mb ml Lm Ls Ll f sv lv := h.kept fun g hg => Below.heap_alloc w o g hg
theorem PS.below (h : PS X w B pb mb ml Lm Ls Ll f sv lv) (hb : Below w.heap.size w w') : PS X w' B pb mb ml Lm Ls Ll f sv lv := h.kept hb.block
theorem PS.drewN (h : PS X w B pb mb ml Lm Ls Ll f sv lv) (n : Nat) : PS X (w.drewN n) B pb mb ml Lm Ls Ll f sv lv := h.kept fun _ _ => rfl
theorem PS.set_away (h : PS X w B pb mb ml Lm Ls Ll f sv lv) {p : Addr} (u : Value) (hB : B ≤ p.block) (h1 : p.block ≠ pb) (h2 : p.block ≠ mb) (h3 : sv.ownBlock ≠ some p.block) (h4 : lv.ownBlock ≠ some p.block) : PS X (w.setCell p u) B pb mb ml Lm Ls Ll f sv lv := by
  have hk : ∀ g, g ≠ p.block → (w.setCell p u).heap[g]? = w.heap[g]? := fun g hg => Below.heap_setCell w p u g hg
  have hg : (w.setCell p u).heap[GI]? = w.heap[GI]? := hk _ (by have := h.gB; omega)
  exact { h with
    g0 := by rw [World.cell?_of_block (w := w) hg]; exact h.g0
    g1 := by rw [World.cell?_of_block (w := w) hg]; exact h.g1
    par := h.par.of_block (hk _ (Ne.symm h1))
    sm := h.sm.kept (hk _ (Ne.symm h2))
    sy := ownsRow_of h.sy fun g hv => hk g (fun e => h3 (e ▸ hv))
    lc := ownsRow_of h.lc fun g hv => hk g (fun e => h4 (e ▸ hv)) }
/-- The symbols have been appended to, and the parser's field set. -/
theorem PS.sym_app (h : PS X w B pb mb ml Lm Ls Ll f sv lv) (e : Ent) {g cap : Nat} (hg : w.grownBy w' sv.ownBlock) (ho : w'.ownsRow B TS 10 (.slice (some ⟨g, 0, none⟩) (Ls.length + 1) cap) (Ls.length + 1) (syms (kindOf ml) Ls ++ symc (kindOf ml) e)) (hX : X g) :
    PS X (w'.setCell ⟨pb, 21, none⟩ (.slice (some ⟨g, 0, none⟩) (Ls.length + 1) cap)) B pb mb ml Lm (Ls ++ [e]) Ll (fun j => if j = 21 then .slice (some ⟨g, 0, none⟩) (Ls.length + 1) cap else f j) (.slice (some ⟨g, 0, none⟩) (Ls.length + 1) cap) lv := by
  have n1 : sv.ownBlock ≠ some pb := own_type h.par h.sy (by decide)
  have n2 := own_own h.lc h.sy (by decide)
  have n3 : sv.ownBlock ≠ some mb := own_map h.sm h.sy
  have n4 : pb ≠ mb := row_map h.sm h.par
  have hGp : GI ≠ pb := by have := h.gB; have := h.hB; omega
  have hGs : sv.ownBlock ≠ some GI := fun hv => by have := (h.sy.lt _ hv).1; have := h.gB; omega
  have hk : ∀ q, q < w.heap.size → sv.ownBlock ≠ some q → w'.heap[q]? = w.heap[q]? := fun q hq hv => hg.block q hq (Ne.symm hv)
  have hpar := h.par.of_block (hk pb h.par.lt n1)
  have hlc : w'.ownsRow B TL 3 lv Ll.length (locs Ll 0) := ownsRow_of h.lc fun q hv => hk q (h.lc.lt q hv).2 (n2 q hv)
  have hsm := h.sm.kept (hk mb h.sm.lt n3)
  have hGl : GI < w.heap.size := Nat.lt_of_lt_of_le h.gB (Nat.le_trans h.hB (Nat.le_of_lt h.par.lt))
  have hset : ∀ q, q ≠ pb → (w'.setCell ⟨pb, 21, none⟩ (.slice (some ⟨g, 0, none⟩) (Ls.length + 1) cap)).heap[q]? = w'.heap[q]? := fun q hq => Below.heap_setCell w' ⟨pb, 21, none⟩ _ q hq
  exact {
    g0 := by rw [World.cell?_of_block (w := w) ((hset GI hGp).trans (hk GI hGl hGs))]; exact h.g0
    g1 := by rw [World.cell?_of_block (w := w) ((hset GI hGp).trans (hk GI hGl hGs))]; exact h.g1
    gB := h.gB
    par := hpar.set 21 _
    hB := h.hB
    hm := h.hm
    f15 := h.f15
    f21 := rfl
    f23 := h.f23
    fsc := by cases ml <;> exact h.fsc
    f54 := h.f54
    sm := hsm.kept (hset mb (Ne.symm n4))
    sy := by
      rw [syms_snoc, List.length_append]
      exact ownsRow_of ho fun q hv => hset q (fun e => own_type hpar ho (by decide) (e ▸ hv))
    xp := h.xp
    xm := h.xm
    xs := OwnIn.some hX
    xl := h.xl
    lc := ownsRow_of hlc fun q hv => hset q (fun e => own_type h.par h.lc (by decide) (e ▸ hv)) }
/-- The local symbols have been appended to, and the parser's field set. -/
theorem PS.loc_app (h : PS X w B pb mb ml Lm Ls Ll f sv lv) (e : Ent) {g cap : Nat} (hg : w.grownBy w' lv.ownBlock) (ho : w'.ownsRow B TL 3 (.slice (some ⟨g, 0, none⟩) (Ll.length + 1) cap) (Ll.length + 1) (locs Ll 0 ++ locc Ll.length e)) (hX : X g) :
    PS X (w'.setCell ⟨pb, 23, none⟩ (.slice (some ⟨g, 0, none⟩) (Ll.length + 1) cap)) B pb mb ml Lm Ls (Ll ++ [e]) (fun j => if j = 23 then .slice (some ⟨g, 0, none⟩) (Ll.length + 1) cap else f j) sv (.slice (some ⟨g, 0, none⟩) (Ll.length + 1) cap) := by
  have n1 : lv.ownBlock ≠ some pb := own_type h.par h.lc (by decide)
  have n2 := own_own h.sy h.lc (by decide)
  have n3 : lv.ownBlock ≠ some mb := own_map h.sm h.lc
  have n4 : pb ≠ mb := row_map h.sm h.par
  have hGp : GI ≠ pb := by have := h.gB; have := h.hB; omega
  have hGs : lv.ownBlock ≠ some GI := fun hv => by have := (h.lc.lt _ hv).1; have := h.gB; omega
  have hk : ∀ q, q < w.heap.size → lv.ownBlock ≠ some q → w'.heap[q]? = w.heap[q]? := fun q hq hv => hg.block q hq (Ne.symm hv)
  have hpar := h.par.of_block (hk pb h.par.lt n1)
  have hsy : w'.ownsRow B TS 10 sv Ls.length (syms (kindOf ml) Ls) := ownsRow_of h.sy fun q hv => hk q (h.sy.lt q hv).2 (n2 q hv)
  have hsm := h.sm.kept (hk mb h.sm.lt n3)
  have hGl : GI < w.heap.size := Nat.lt_of_lt_of_le h.gB (Nat.le_trans h.hB (Nat.le_of_lt h.par.lt))
  have hset : ∀ q, q ≠ pb → (w'.setCell ⟨pb, 23, none⟩ (.slice (some ⟨g, 0, none⟩) (Ll.length + 1) cap)).heap[q]? = w'.heap[q]? := fun q hq => Below.heap_setCell w' ⟨pb, 23, none⟩ _ q hq
  exact {
    g0 := by rw [World.cell?_of_block (w := w) ((hset GI hGp).trans (hk GI hGl hGs))]; exact h.g0
    g1 := by rw [World.cell?_of_block (w := w) ((hset GI hGp).trans (hk GI hGl hGs))]; exact h.g1
    gB := h.gB
    par := hpar.set 23 _
    hB := h.hB
    hm := h.hm
    f15 := h.f15
    f21 := h.f21
    f23 := rfl
    fsc := by cases ml <;> exact h.fsc
    f54 := h.f54
    sm := hsm.kept (hset mb (Ne.symm n4))
    sy := ownsRow_of hsy fun q hv => hset q (fun e => own_type h.par h.sy (by decide) (e ▸ hv))
    xp := h.xp
    xm := h.xm
    xs := h.xs
    xl := OwnIn.some hX
    lc := by
      rw [locs_snoc, List.length_append, Nat.zero_add]
      exact ownsRow_of ho fun q hv => hset q (fun e => own_type hpar ho (by decide) (e ▸ hv)) }
/-- The map has got a new key. -/
theorem PS.map_put (h : PS X w B pb mb ml Lm Ls Ll f sv lv) (e : Ent) : PS X (putM w mb (mapl Lm 0 ++ [(e.nm, .agg (locc Lm.length e).toArray)])) B pb mb ml (Lm ++ [e]) Ls Ll f sv lv := by
  have n1 : sv.ownBlock ≠ some mb := own_map h.sm h.sy
  have n2 : lv.ownBlock ≠ some mb := own_map h.sm h.lc
  have n4 : pb ≠ mb := row_map h.sm h.par
  have hk : ∀ q, q ≠ mb → (putM w mb (mapl Lm 0 ++ [(e.nm, .agg (locc Lm.length e).toArray)])).heap[q]? = w.heap[q]? := fun q hq => putM_block w mb _ q hq
  have hG : GI ≠ mb := by have := h.gB; have := h.hm; omega
  exact { h with
    g0 := by rw [World.cell?_of_block (w := w) (hk GI hG)]; exact h.g0
    g1 := by rw [World.cell?_of_block (w := w) (hk GI hG)]; exact h.g1
    par := h.par.of_block (hk _ n4)
    sm := by rw [mapl_snoc, Nat.zero_add]; exact putM_map w mb _ h.sm.lt
    sy := ownsRow_of h.sy fun q hv => hk q (fun e => n1 (e ▸ hv))
    lc := ownsRow_of h.lc fun q hv => hk q (fun e => n2 (e ▸ hv)) }
/-- A symbol's count has been set. -/
theorem PS.use_set {g cap : Nat} (h : PS X w B pb mb ml Lm Ls Ll f (.slice (some ⟨g, 0, none⟩) Ls.length cap) lv) (i : Nat) (e : Ent) (u : Nat) (hi : Ls[i]? = some e) :
    PS X (w.setCell ⟨g, i * 10 + 4, none⟩ (.int .u32 (u : Int))) B pb mb ml Lm (Ls.set i { e with uses := u }) Ll f (.slice (some ⟨g, 0, none⟩) Ls.length cap) lv := by
  have n1 : g ≠ pb := fun e => own_type h.par h.sy (by decide) (by simp [Value.ownBlock, e])
  have n2 : lv.ownBlock ≠ some g := own_own h.sy h.lc (by decide) g rfl
  have n3 : g ≠ mb := fun e => own_map h.sm h.sy (by simp [Value.ownBlock, e])
  have hgB := (h.sy.lt g rfl).1
  have hk : ∀ q, q ≠ g → (w.setCell ⟨g, i * 10 + 4, none⟩ (.int .u32 (u : Int))).heap[q]? = w.heap[q]? := fun q hq => Below.heap_setCell w ⟨g, i * 10 + 4, none⟩ _ q hq
  have hG : GI ≠ g := by have := h.gB; omega
  have hs := (h.sy.stored (i * 10 + 4) (.int .u32 (u : Int))).1
  rw [syms_set _ _ _ _ _ hi] at hs
  exact { h with
    g0 := by rw [World.cell?_of_block (w := w) (hk GI hG)]; exact h.g0
    g1 := by rw [World.cell?_of_block (w := w) (hk GI hG)]; exact h.g1
    par := h.par.of_block (hk _ (Ne.symm n1))
    sm := h.sm.kept (hk _ (Ne.symm n3))
    sy := by rw [List.length_set]; exact hs
    lc := ownsRow_of h.lc fun q hv => hk q (fun e => n2 (e ▸ hv)) }
end
end Go.Proofs.YtmfpgnedeonmiaaDoor.SY
