/- What memory holds of a complex selector that was built. -/
import Derived.Test.YtdonfahjcejhpaaNc
namespace Go.Proofs.Ytdonfahjcejhpaa.MG
open Go.RowKit Go.Proofs.Ytdonfahjcejhpaa.TB
set_option linter.unusedVariables false
/-- The cells of n subclass selectors. -/
def ezs (P : Nat → Value) : Nat → List Value
  | 0 => []
  | k + 1 => ezs P k ++ [P k, .int .i32 0, .int .i32 0]
theorem ezs_len (P : Nat → Value) (n : Nat) : (ezs P n).length = n * 3 := by
  induction n with
  | zero => rfl
  | succ k ih => simp [ezs, ih]; omega
theorem ezs_get (P : Nat → Value) {n i : Nat} (h : i < n) : (ezs P n)[i * 3]? = some (P i) ∧ (ezs P n)[i * 3 + 1]? = some (.int .i32 0) ∧ (ezs P n)[i * 3 + 2]? = some (.int .i32 0) := by
  induction n with
  | zero => omega
  | succ k ih =>
    have hl := ezs_len P k
    by_cases e : i = k
    · subst e
      simp only [ezs]
      refine ⟨?_, ?_, ?_⟩ <;> rw [List.getElem?_append_right (by omega)] <;> simp [hl]
    · obtain ⟨h0, h1, h2⟩ := ih (by omega)
      simp only [ezs]
      refine ⟨?_, ?_, ?_⟩ <;> rw [List.getElem?_append_left (by omega)] <;> assumption
theorem ezs_congr {P Q : Nat → Value} {n : Nat} (h : ∀ i, i < n → P i = Q i) : ezs P n = ezs Q n := by
  induction n with
  | zero => rfl
  | succ k ih => simp only [ezs, ih (fun i hi => h i (by omega)), h k (by omega)]
/-- A row of a compound selector. -/
structure RW where
  tp : Option Addr
  v : Value
  na : Option Addr
  m : Nat
  nc : Nat
  c : Int
def rws (R : Nat → RW) : Nat → List Value
  | 0 => []
  | k + 1 => rws R k ++ [.pointer (R k).tp, (R k).v, .slice (R k).na (R k).m (R k).nc, .int .i32 0, .int .u8 (R k).c, .bool false]
theorem rws_len (R : Nat → RW) (n : Nat) : (rws R n).length = n * 6 := by
  induction n with
  | zero => rfl
  | succ k ih => simp [rws, ih]; omega
theorem rws_get (R : Nat → RW) {n i : Nat} (h : i < n) : (rws R n)[i * 6]? = some (.pointer (R i).tp) ∧ (rws R n)[i * 6 + 1]? = some (R i).v ∧ (rws R n)[i * 6 + 2]? = some (.slice (R i).na (R i).m (R i).nc) ∧
    (rws R n)[i * 6 + 3]? = some (.int .i32 0) ∧ (rws R n)[i * 6 + 4]? = some (.int .u8 (R i).c) ∧ (rws R n)[i * 6 + 5]? = some (.bool false) := by
  induction n with
  | zero => omega
  | succ k ih =>
    have hl := rws_len R k
    by_cases e : i = k
    · subst e
      simp only [rws]
      refine ⟨?_, ?_, ?_, ?_, ?_, ?_⟩ <;> rw [List.getElem?_append_right (by omega)] <;> simp [hl]
    · obtain ⟨h0, h1, h2, h3, h4, h5⟩ := ih (by omega)
      simp only [rws]
      refine ⟨?_, ?_, ?_, ?_, ?_, ?_⟩ <;> rw [List.getElem?_append_left (by omega)] <;> assumption
theorem rws_congr {P Q : Nat → RW} {n : Nat} (h : ∀ i, i < n → P i = Q i) : rws P n = rws Q n := by
  induction n with
  | zero => rfl
  | succ k ih => simp only [rws, ih (fun i hi => h i (by omega)), h k (by omega)]
theorem own_grown {base e size n base2 e2 size2 n2 : Nat} {w w1 : World} {o : Obj} {v v2 : Value} {xs xs2 : List Value} (h : w.ownsRow base e size v n xs) (h2 : w.ownsRow base2 e2 size2 v2 n2 xs2) (hne : e ≠ e2) (hgrow : (w.alloc o).grownBy w1 v2.ownBlock) :
    w1.ownsRow base e size v n xs := by
  obtain ⟨k1, k2⟩ := h
  refine ⟨k1, ?_⟩
  rcases k2 with k2 | ⟨g, cap, cur, rfl, e2', e3, e4⟩
  · exact .inl k2
  · refine .inr ⟨g, cap, cur, rfl, e2', ?_, e4⟩
    have hlt : g < w.heap.size := (Array.getElem?_eq_some_iff.1 e3).1
    have hb : (w.alloc o).heap[g]? = some (.cells cur e (0, 0)) ∨ True := .inr trivial
    rw [hgrow.block g (by simp; omega) (fun hq => ?_), Below.heap_alloc w o g hlt]
    · exact e3
    · rcases h2.2 with ⟨rfl, -⟩ | ⟨g', cap', cur', rfl, -, hg', -⟩
      · cases hq
      · simp only [Value.ownBlock, Option.some.injEq] at hq
        subst hq
        rw [e3] at hg'
        simp only [Option.some.injEq, Obj.cells.injEq] at hg'
        exact hne hg'.2.1
/-- A list of subclass selectors, built. -/
def SList (w : World) (v : Value) (n : Nat) (Z : Nat → ZS) : Prop := ∃ P, (∃ base, w.ownsRow base 68 3 v n (ezs P n)) ∧ ∀ i, i < n → SubAt w (P i) (Z i)
/-- A list of compound selectors, built. -/
def CList (w : World) (base : Nat) (v : Value) (n : Nat) (C : Nat → ZC) : Prop := ∃ R : Nat → RW, w.ownsRow base 46 6 v n (rws R n) ∧ ∀ i, i < n → SList w (R i).v (C i).n (C i).s
theorem SList.below {w w' : World} {v : Value} {n : Nat} {Z : Nat → ZS} (h : SList w v n Z) (hb : Below w.heap.size w w') : SList w' v n Z := by
  obtain ⟨P, ⟨b, h1⟩, h2⟩ := h
  exact ⟨P, ⟨b, own_below h1 hb⟩, fun i hi => (h2 i hi).below hb⟩
theorem CList.below {w w' : World} {base : Nat} {v : Value} {n : Nat} {C : Nat → ZC} (h : CList w base v n C) (hb : Below w.heap.size w w') : CList w' base v n C := by
  obtain ⟨R, h1, h2⟩ := h
  exact ⟨R, own_below h1 hb, fun i hi => (h2 i hi).below hb⟩
theorem SList.grown {base2 e2 size2 n2 : Nat} {w w1 : World} {o : Obj} {v v2 : Value} {xs2 : List Value} {n : Nat} {Z : Nat → ZS} (h : SList w v n Z) (h2 : w.ownsRow base2 e2 size2 v2 n2 xs2) (h3 : (68 : Nat) ≠ e2) (h4 : (81 : Nat) ≠ e2) (h5 : (88 : Nat) ≠ e2)
    (hgrow : (w.alloc o).grownBy w1 v2.ownBlock) : SList w1 v n Z := by
  obtain ⟨P, ⟨b, h1⟩, k2⟩ := h
  exact ⟨P, ⟨b, own_grown h1 h2 h3 hgrow⟩, fun i hi => (k2 i hi).grown h2 h4 h5 hgrow⟩
theorem SList.far {w : World} {v : Value} {n : Nat} {Z : Nat → ZS} (h : SList w v n Z) {g o : Nat} {cs : Array Value} {t : TypeId} (hb : Blk w g t cs) (h0 : t ≠ 68) (h1 : t ≠ 81) (h2 : t ≠ 88) (u : Value) : SList (w.setCell ⟨g, o, none⟩ u) v n Z := by
  obtain ⟨P, ⟨b, k1⟩, k2⟩ := h
  exact ⟨P, ⟨b, own_far k1 (own_ne k1 hb h0) u⟩, fun i hi => (k2 i hi).far hb h1 h2 u⟩
theorem CList.far {w : World} {base : Nat} {v : Value} {n : Nat} {C : Nat → ZC} (h : CList w base v n C) {g o : Nat} {cs : Array Value} {t : TypeId} (hb : Blk w g t cs) (h00 : t ≠ 46) (h0 : t ≠ 68) (h1 : t ≠ 81) (h2 : t ≠ 88) (u : Value) : CList (w.setCell ⟨g, o, none⟩ u) base v n C := by
  obtain ⟨R, k1, k2⟩ := h
  exact ⟨R, own_far k1 (own_ne k1 hb h00) u, fun i hi => (k2 i hi).far hb h0 h1 h2 u⟩
/-- A compound selector under construction, beside the copy of its code. -/
def LD (wr : World) (gc g5 : Nat) (X : Array Value) (tp na : Option Addr) (m nc : Nat) (cc : Int) (Z : Nat → ZS) (j : Nat) (v : Value) (wx : World) : Prop :=
  Blk wx gc 27 X ∧ Blk wx g5 46 #[.pointer tp, v, .slice na m nc, .int .i32 0, .int .u8 cc, .bool false] ∧ (∃ P, wx.ownsRow wr.heap.size 68 3 v j (ezs P j) ∧ ∀ i, i < j → SubAt wx (P i) (Z i)) ∧ Below wr.heap.size wr wx
section
variable {wr wx w9 w1 W1 : World} {gc g5 gg cap : Nat} {X : Array Value} {tp na na0 : Option Addr} {m nc m0 nc0 : Nat} {cc : Int} {Z : Nat → ZS} {j : Nat} {v : Value} {o : Obj}
theorem LD.start (hc : Blk W1 gc 27 X) (h : Blk W1 g5 46 #[.pointer tp, .slice none 0 0, .slice na0 m0 nc0, .int .i32 0, .int .u8 cc, .bool false]) (hb : Below wr.heap.size wr W1) (hg : wr.heap.size ≤ g5) (hne : gc ≠ g5) :
    LD wr gc g5 X tp na m nc cc Z 0 (.slice none 0 0) (W1.setCell ⟨g5, 2, none⟩ (.slice na m nc)) := by
  refine ⟨hc.far hne _, ?_, ⟨fun _ => .nilIface, World.ownsRow_nil _ _ _ _, fun i hi => absurd hi (by omega)⟩, hb.setCell hg _⟩
  have h0 := h.set_ 2 (.slice na m nc)
  simp only [List.setIfInBounds_toArray, List.set_cons_zero, List.set_cons_succ] at h0
  exact h0
theorem LD.below (h : LD wr gc g5 X tp na m nc cc Z j v wx) (hb : Below wx.heap.size wx w9) : LD wr gc g5 X tp na m nc cc Z j v w9 := by
  obtain ⟨h1, h2, ⟨P, h3, h4⟩, h5⟩ := h
  exact ⟨h1.below hb h1.lt, h2.below hb h2.lt, ⟨P, own_below h3 hb, fun i hi => (h4 i hi).below hb⟩, h5.trans (hb.mono h5.size)⟩
theorem LD.next {P : Nat → Value} {x : Value} (h : LD wr gc g5 X tp na m nc cc Z j v w9) (hg : wr.heap.size ≤ g5) (hne : gc ≠ g5) (hP : w9.ownsRow wr.heap.size 68 3 v j (ezs P j)) (hQ : ∀ i, i < j → SubAt w9 (P i) (Z i)) (hx : SubAt w9 x (Z j))
    (hown : w1.ownsRow wr.heap.size 68 3 (.slice (some ⟨gg, 0, none⟩) (j + 1) cap) (j + 1) (ezs P j ++ [x, .int .i32 0, .int .i32 0])) (hgrow : (w9.alloc o).grownBy w1 v.ownBlock) :
    LD wr gc g5 X tp na m nc cc Z (j + 1) (.slice (some ⟨gg, 0, none⟩) (j + 1) cap) (w1.setCell ⟨g5, 1, none⟩ (.slice (some ⟨gg, 0, none⟩) (j + 1) cap)) := by
  obtain ⟨hc, ht, -, hb⟩ := h
  have ec := (hc.alloc o).grown hgrow (fun e => own_ne hP hc (by decide) e.symm)
  have et := (ht.alloc o).grown hgrow (fun e => own_ne hP ht (by decide) e.symm)
  have h0 := et.set_ 1 (.slice (some ⟨gg, 0, none⟩) (j + 1) cap)
  simp only [List.setIfInBounds_toArray, List.set_cons_zero, List.set_cons_succ] at h0
  have hlow : Below wr.heap.size wr w1 := by
    refine ⟨hgrow.os.trans hb.os, hgrow.tape.trans hb.tape, hgrow.output.trans hb.output, ?_, fun q hq => ?_⟩
    · have h1 := hgrow.size; simp at h1; have := hb.size; omega
    · have h1 := hb.size
      rw [hgrow.block q (by simp; omega) (fun e => by have := (hP.lt q e.symm).1; omega), Below.heap_alloc w9 o q (by omega)]
      exact hb.block q hq
  refine ⟨ec.far hne _, h0, ⟨fun i => if i = j then x else P i, ?_, fun i hi => ?_⟩, hlow.setCell hg _⟩
  · have e1 : ezs (fun i => if i = j then x else P i) (j + 1) = ezs P j ++ [x, .int .i32 0, .int .i32 0] := by
      simp only [ezs, if_true]
      rw [ezs_congr (P := fun i => if i = j then x else P i) (Q := P) (fun i hi => if_neg (by omega))]
    rw [e1]
    exact own_far hown (own_ne hown et (by decide)) _
  · by_cases e : i = j
    · subst e; simp only [if_true]; exact (hx.grown hP (by decide) (by decide) hgrow).far et (by decide) (by decide) _
    · simp only [e, if_false]; exact ((hQ i (by omega)).grown hP (by decide) (by decide) hgrow).far et (by decide) (by decide) _
theorem LD.free {xs : List Value} (h : LD wr gc g5 X tp na m nc cc Z j v w9) (hP : w9.ownsRow wr.heap.size 68 3 v j xs) (hgrow : (w9.alloc o).grownBy w1 v.ownBlock) : w1.frozen? ⟨g5, 1, none⟩ = false :=
  ((h.2.1.alloc o).grown hgrow (fun e => own_ne hP h.2.1 (by decide) e.symm)).frozen 1
theorem LD.slist (h : LD wr gc g5 X tp na m nc cc Z j v wx) : SList wx v j Z := by
  obtain ⟨-, -, ⟨P, h3, h4⟩, -⟩ := h
  exact ⟨P, ⟨_, h3⟩, h4⟩
end
/-- The list under construction. -/
def LU (w : World) (k : Nat) (C : Nat → ZC) (v : Value) (wr : World) : Prop := CList wr w.heap.size v k C ∧ Blk wr w.heap.size 31 #[.slice none 0 0] ∧ Below w.heap.size w wr
theorem LU.start (w : World) (C : Nat → ZC) (n : Nat) (hn : n ≤ maxLen) :
    LU w 0 C (.slice (some ⟨w.heap.size + 1, 0, none⟩) 0 n) ((w.alloc (.cells #[.slice none 0 0] 31)).alloc (.cells (madeCells #[.pointer none, .slice none 0 0, .slice none 0 0, .int .i32 0, .int .u8 0, .bool false] (n * 6)) 46)) := by
  refine ⟨⟨fun _ => ⟨none, .slice none 0 0, none, 0, 0, 0⟩, ?_, fun i hi => absurd hi (by omega)⟩, (Blk.new w 31 _).alloc _, ((Below.refl _ _).alloc (Nat.le_refl _) _).alloc (by simp) _⟩
  have h := World.ownsRow_made (base := w.heap.size) (e := 46) (size := 6) (w.alloc (.cells #[.slice none 0 0] 31)) (madeCells #[.pointer none, .slice none 0 0, .slice none 0 0, .int .i32 0, .int .u8 0, .bool false] (n * 6)) n (by simp) hn (size_madeCells _ _)
  simpa [rws] using h
theorem LU.next {w wr wx w1 : World} {k gg cap : Nat} {C : Nat → ZC} {v : Value} {o : Obj} {R : Nat → RW} {r : RW} (h : LU w k C v wr) (hb : Below wr.heap.size wr wx) (hR : wx.ownsRow w.heap.size 46 6 v k (rws R k)) (hS : ∀ i, i < k → SList wx (R i).v (C i).n (C i).s) (hr : SList wx r.v (C k).n (C k).s)
    (hown : w1.ownsRow w.heap.size 46 6 (.slice (some ⟨gg, 0, none⟩) (k + 1) cap) (k + 1) (rws R k ++ [.pointer r.tp, r.v, .slice r.na r.m r.nc, .int .i32 0, .int .u8 r.c, .bool false])) (hgrow : (wx.alloc o).grownBy w1 v.ownBlock) :
    LU w (k + 1) C (.slice (some ⟨gg, 0, none⟩) (k + 1) cap) w1 := by
  obtain ⟨-, h2, hw⟩ := h
  have hw2 : Below w.heap.size w wx := hw.trans (hb.mono hw.size)
  have h3 := h2.below hb h2.lt
  refine ⟨⟨fun i => if i = k then r else R i, ?_, fun i hi => ?_⟩, (h3.alloc o).grown hgrow (fun e => own_ne hR h3 (by decide) e.symm), ?_⟩
  · have e1 : rws (fun i => if i = k then r else R i) (k + 1) = rws R k ++ [.pointer r.tp, r.v, .slice r.na r.m r.nc, .int .i32 0, .int .u8 r.c, .bool false] := by
      simp only [rws, if_true]
      rw [rws_congr (P := fun i => if i = k then r else R i) (Q := R) (fun i hi => if_neg (by omega))]
    rw [e1]; exact hown
  · by_cases e : i = k
    · subst e; simp only [if_true]; exact hr.grown hR (by decide) (by decide) (by decide) hgrow
    · simp only [e, if_false]; exact (hS i (by omega)).grown hR (by decide) (by decide) (by decide) hgrow
  · refine ⟨hgrow.os.trans hw2.os, hgrow.tape.trans hw2.tape, hgrow.output.trans hw2.output, ?_, fun q hq => ?_⟩
    · have h1 := hgrow.size; simp at h1; have := hw2.size; omega
    · have h1 := hw2.size
      rw [hgrow.block q (by simp; omega) (fun e => by have := (hR.lt q e.symm).1; omega), Below.heap_alloc wx o q (by omega)]
      exact hw2.block q hq
/-- The answer of zzBuildComplex. -/
def CR (w : World) (n : Nat) (C : Nat → ZC) (e : Ending) (w' : World) : Prop := ∃ v, e = .returned (.agg #[v]) ∧ CList w' w.heap.size v n C ∧ Below w.heap.size w w'
theorem LU.done {w wr : World} {k : Nat} {C : Nat → ZC} {v : Value} (h : LU w k C v wr) : Blk (wr.setCell ⟨w.heap.size, 0, none⟩ v) w.heap.size 31 #[v] ∧ CList (wr.setCell ⟨w.heap.size, 0, none⟩ v) w.heap.size v k C ∧ Below w.heap.size w (wr.setCell ⟨w.heap.size, 0, none⟩ v) := by
  obtain ⟨h1, h2, h3⟩ := h
  have h0 := h2.set_ 0 v
  simp only [List.setIfInBounds_toArray, List.set_cons_zero] at h0
  exact ⟨h0, h1.far h2 (by decide) (by decide) (by decide) (by decide) _, h3.setCell (Nat.le_refl _) _⟩
end Go.Proofs.Ytdonfahjcejhpaa.MG
