/- zzBuildSimple of n011_210, walked. -/
import Derived.Test.YtdonfahjcejhpaaMb
import Derived.Deep.RegionLaw
import Derived.Deep.CutBlock
namespace Go.Proofs.Ytdonfahjcejhpaa.MG
open Go.RowKit Go.Proofs.Ytdonfahjcejhpaa.TB
set_option linter.unusedVariables false
theorem info68 : (Try.prog.info? 68).map (fun i => (i.zero, i.size, i.bytes)) = some (some (.agg #[.nilIface, .int .i32 0, .int .i32 0]), 3, 24) := by kernel_rfl
/-- The state of the building loop. -/
structure LB (w : World) (ty : Int) (m : Nat) (xc : Int) (A : Option Addr) (n c : Nat) (S : Nat → ByteArray) (tp nv : Value) (k : Nat) (v : Value) (wr : World) : Prop where
  x : Blk wr w.heap.size 35 #[.int .u8 ty, .int .u8 m, .slice A n c]
  r : Blk wr (w.heap.size + 1) 46 #[.pointer none, .slice none 0 0, .slice none 0 0, .int .i32 0, .int .u8 0, .bool false]
  t : Blk wr (w.heap.size + 1 + 1) 46 #[tp, v, nv, .int .i32 0, .int .u8 (cb xc), .bool false]
  s : Subs w.heap.size wr v k S
  ty : TyAt wr tp ty
  b : Below w.heap.size w wr
theorem TyAt.far {w : World} {p : Value} {t : Int} (h : TyAt w p t) {g o : Nat} {cs : Array Value} {ty : TypeId} (hb : Blk w g ty cs) (h1 : ty ≠ 76) (u : Value) : TyAt (w.setCell ⟨g, o, none⟩ u) p t := by
  unfold TyAt at h ⊢
  split
  · rename_i e; rw [if_pos e] at h; exact h
  · rename_i e; rw [if_neg e] at h
    obtain ⟨q, e1, e2⟩ := h
    refine ⟨q, e1, e2.far (fun e3 => ?_) _⟩
    simp only at e3
    unfold Blk at hb e2
    rw [← e3, e2] at hb
    simp only [Option.some.injEq, Obj.cells.injEq] at hb
    exact h1 hb.2.1.symm
/-- What one step of the building loop loads. -/
def BJ (g5 g2 b o : Nat) (v sv : Value) (s : ByteArray) (w' : World) : Prop :=
  w'.cell? ⟨g5, 1, none⟩ = some v ∧ w'.cell? ⟨g2, 2, none⟩ = some sv ∧ w'.cell? ⟨b, o, none⟩ = some (.string s) ∧ w'.frozen? ⟨g5, 1, none⟩ = false
theorem BJ.step {g5 g2 b o : Nat} {v sv : Value} {s : ByteArray} {w1 w2 : World} (h : BJ g5 g2 b o v sv s w1) (hb : Below w1.heap.size w1 w2) : BJ g5 g2 b o v sv s w2 := by
  obtain ⟨h1, h2, h3, h4⟩ := h
  exact ⟨(hb.cell (World.block_lt_of_cell? w1 _ h1)).trans h1, (hb.cell (World.block_lt_of_cell? w1 _ h2)).trans h2, (hb.cell (World.block_lt_of_cell? w1 _ h3)).trans h3, (hb.frozen (p := ⟨g5, 1, none⟩) (World.block_lt_of_cell? w1 _ h1)).trans h4⟩
theorem BJ.grown {g5 g2 b o : Nat} {v sv : Value} {s : ByteArray} {w1 w2 : World} (h : BJ g5 g2 b o v sv s w1) {ob : Obj} {row : Option Nat} (hb : (w1.alloc ob).grownBy w2 row) (h5 : row ≠ some g5) (h2 : row ≠ some g2) (hq : row ≠ some b) : BJ g5 g2 b o v sv s w2 := by
  obtain ⟨a1, a2, a3, a4⟩ := h.step ((Below.refl w1.heap.size w1).alloc (Nat.le_refl _) ob)
  have l1 := World.block_lt_of_cell? _ _ a1
  exact ⟨hb.cell a1 (Ne.symm h5), hb.cell a2 (Ne.symm h2), hb.cell a3 (Ne.symm hq), (hb.frozen_far _ l1 (Ne.symm h5)).trans a4⟩
/-- Ahead of the loop. -/
def LZ (w : World) (ty : Int) (m : Nat) (xc : Int) (A : Option Addr) (n c : Nat) (tp nv : Value) (wr : World) : Prop :=
  Blk wr w.heap.size 35 #[.int .u8 ty, .int .u8 m, .slice A n c] ∧ Blk wr (w.heap.size + 1) 46 #[.pointer none, .slice none 0 0, .slice none 0 0, .int .i32 0, .int .u8 0, .bool false] ∧
  Blk wr (w.heap.size + 1 + 1) 46 #[tp, .slice none 0 0, nv, .int .i32 0, .int .u8 (cb xc), .bool false] ∧ TyAt wr tp ty ∧ Below w.heap.size w wr
theorem LZ.below {w wr w9 : World} {ty : Int} {m : Nat} {xc : Int} {A : Option Addr} {n c : Nat} {tp nv : Value} (h : LZ w ty m xc A n c tp nv wr) (hb : Below wr.heap.size wr w9) : LZ w ty m xc A n c tp nv w9 := by
  obtain ⟨h1, h2, h3, h4, h5⟩ := h
  exact ⟨h1.below hb h1.lt, h2.below hb h2.lt, h3.below hb h3.lt, h4.below hb, h5.trans (hb.mono h5.size)⟩
theorem LZ.start (w : World) (m : Nat) (xc : Int) (A : Option Addr) (n c : Nat) : LZ w 0 m xc A n c (.pointer none) (.slice none 0 0) (((w.alloc (.cells #[.int .u8 0, .int .u8 m, .slice A n c] 35)).alloc (.cells #[.pointer none, .slice none 0 0, .slice none 0 0, .int .i32 0, .int .u8 0, .bool false] 46)).alloc (.cells #[.pointer none, .slice none 0 0, .slice none 0 0, .int .i32 0, .int .u8 (cb xc), .bool false] 46)) := by
  refine ⟨((Blk.new w 35 _).alloc _).alloc _, ?_, ?_, rfl, (((Below.refl _ _).alloc (Nat.le_refl _) _).alloc (by simp) _).alloc (by simp; omega) _⟩
  · have h := (Blk.new (w.alloc (.cells #[.int .u8 0, .int .u8 m, .slice A n c] 35)) 46 #[.pointer none, .slice none 0 0, .slice none 0 0, .int .i32 0, .int .u8 0, .bool false]).alloc (.cells #[.pointer none, .slice none 0 0, .slice none 0 0, .int .i32 0, .int .u8 (cb xc), .bool false] 46)
    simpa using h
  · have h := Blk.new ((w.alloc (.cells #[.int .u8 0, .int .u8 m, .slice A n c] 35)).alloc (.cells #[.pointer none, .slice none 0 0, .slice none 0 0, .int .i32 0, .int .u8 0, .bool false] 46)) 46 #[.pointer none, .slice none 0 0, .slice none 0 0, .int .i32 0, .int .u8 (cb xc), .bool false]
    simpa using h
theorem LZ.start' (w : World) (ty : Int) (m : Nat) (xc : Int) (A : Option Addr) (n c : Nat) (w1 : World) (g : Nat) (hb : Below (((w.alloc (.cells #[.int .u8 ty, .int .u8 m, .slice A n c] 35)).alloc (.cells #[.pointer none, .slice none 0 0, .slice none 0 0, .int .i32 0, .int .u8 0, .bool false] 46)).alloc (.cells #[.pointer none, .slice none 0 0, .slice none 0 0, .int .i32 0, .int .u8 (cb xc), .bool false] 46)).heap.size (((w.alloc (.cells #[.int .u8 ty, .int .u8 m, .slice A n c] 35)).alloc (.cells #[.pointer none, .slice none 0 0, .slice none 0 0, .int .i32 0, .int .u8 0, .bool false] 46)).alloc (.cells #[.pointer none, .slice none 0 0, .slice none 0 0, .int .i32 0, .int .u8 (cb xc), .bool false] 46)) w1)
    (ht : ¬ ty = 0) (hg : Blk w1 g 76 #[.pointer none, .string (lt ty), .int .i32 0, .int .i32 0, .int .u8 0]) :
    LZ w ty m xc A n c (.pointer (some ⟨g, 0, none⟩)) (.slice none 0 0) (w1.setCell ⟨w.heap.size + 1 + 1, 0, none⟩ (.pointer (some ⟨g, 0, none⟩))) := by
  have e1 : Blk (((w.alloc (.cells #[.int .u8 ty, .int .u8 m, .slice A n c] 35)).alloc (.cells #[.pointer none, .slice none 0 0, .slice none 0 0, .int .i32 0, .int .u8 0, .bool false] 46)).alloc (.cells #[.pointer none, .slice none 0 0, .slice none 0 0, .int .i32 0, .int .u8 (cb xc), .bool false] 46)) w.heap.size 35 #[.int .u8 ty, .int .u8 m, .slice A n c] := ((Blk.new w 35 _).alloc _).alloc _
  have e2 : Blk (((w.alloc (.cells #[.int .u8 ty, .int .u8 m, .slice A n c] 35)).alloc (.cells #[.pointer none, .slice none 0 0, .slice none 0 0, .int .i32 0, .int .u8 0, .bool false] 46)).alloc (.cells #[.pointer none, .slice none 0 0, .slice none 0 0, .int .i32 0, .int .u8 (cb xc), .bool false] 46)) (w.heap.size + 1) 46 #[.pointer none, .slice none 0 0, .slice none 0 0, .int .i32 0, .int .u8 0, .bool false] := by
    have h := (Blk.new (w.alloc (.cells #[.int .u8 ty, .int .u8 m, .slice A n c] 35)) 46 #[.pointer none, .slice none 0 0, .slice none 0 0, .int .i32 0, .int .u8 0, .bool false]).alloc (.cells #[.pointer none, .slice none 0 0, .slice none 0 0, .int .i32 0, .int .u8 (cb xc), .bool false] 46)
    simpa using h
  have e3 : Blk (((w.alloc (.cells #[.int .u8 ty, .int .u8 m, .slice A n c] 35)).alloc (.cells #[.pointer none, .slice none 0 0, .slice none 0 0, .int .i32 0, .int .u8 0, .bool false] 46)).alloc (.cells #[.pointer none, .slice none 0 0, .slice none 0 0, .int .i32 0, .int .u8 (cb xc), .bool false] 46)) (w.heap.size + 1 + 1) 46 #[.pointer none, .slice none 0 0, .slice none 0 0, .int .i32 0, .int .u8 (cb xc), .bool false] := by
    have h := Blk.new ((w.alloc (.cells #[.int .u8 ty, .int .u8 m, .slice A n c] 35)).alloc (.cells #[.pointer none, .slice none 0 0, .slice none 0 0, .int .i32 0, .int .u8 0, .bool false] 46)) 46 #[.pointer none, .slice none 0 0, .slice none 0 0, .int .i32 0, .int .u8 (cb xc), .bool false]
    simpa using h
  have e4 : Below w.heap.size w (((w.alloc (.cells #[.int .u8 ty, .int .u8 m, .slice A n c] 35)).alloc (.cells #[.pointer none, .slice none 0 0, .slice none 0 0, .int .i32 0, .int .u8 0, .bool false] 46)).alloc (.cells #[.pointer none, .slice none 0 0, .slice none 0 0, .int .i32 0, .int .u8 (cb xc), .bool false] 46)) := (((Below.refl _ _).alloc (Nat.le_refl _) _).alloc (by simp) _).alloc (by simp; omega) _
  have k1 := e1.below hb e1.lt
  have k2 := e2.below hb e2.lt
  have k3 := e3.below hb e3.lt
  have k4 := e4.trans (hb.mono e4.size)
  refine ⟨k1.far (by show w.heap.size ≠ w.heap.size + 1 + 1; omega) _, k2.far (by show w.heap.size + 1 ≠ w.heap.size + 1 + 1; omega) _, k3.set_ 0 _, ?_, k4.setCell (by show w.heap.size ≤ w.heap.size + 1 + 1; omega) _⟩
  unfold TyAt
  rw [if_neg ht]
  refine ⟨g, rfl, hg.far (fun e => ?_) _⟩
  simp only at e
  rw [e] at hg
  unfold Blk at hg k3
  rw [hg] at k3
  simp only [Option.some.injEq, Obj.cells.injEq] at k3
  exact absurd k3.2.1 (by decide)
theorem LZ.loop {w wr w9 : World} {ty : Int} {m : Nat} {xc : Int} {A : Option Addr} {n c : Nat} {tp nv0 : Value} (S : Nat → ByteArray) (h : LZ w ty m xc A n c tp nv0 wr) (hb : Below wr.heap.size wr w9) (nv : Value) :
    LB w ty m xc A n c S tp nv 0 (.slice none 0 0) (w9.setCell ⟨w.heap.size + 1 + 1, 2, none⟩ nv) := by
  obtain ⟨h1, h2, h3, h4, h5⟩ := h.below hb
  refine ⟨h1.far (by show w.heap.size ≠ w.heap.size + 1 + 1; omega) _, h2.far (by show w.heap.size + 1 ≠ w.heap.size + 1 + 1; omega) _, h3.set_ 2 _, Subs.nil _ _ _, ?_, h5.setCell (by show w.heap.size ≤ w.heap.size + 1 + 1; omega) _⟩
  unfold TyAt at h4 ⊢
  split
  · rename_i e; rw [if_pos e] at h4; exact h4
  · rename_i e; rw [if_neg e] at h4
    obtain ⟨q, e1, e2⟩ := h4
    refine ⟨q, e1, e2.far (fun e3 => ?_) _⟩
    simp only at e3
    unfold Blk at h3 e2
    rw [← e3, e2] at h3
    simp only [Option.some.injEq, Obj.cells.injEq] at h3
    exact absurd h3.2.1 (by decide)
section
variable {w wr w9 w1 : World} {ty : Int} {m : Nat} {xc : Int} {A : Option Addr} {n c : Nat} {S : Nat → ByteArray} {tp nv : Value} {k : Nat} {v : Value}
theorem LB.below (h : LB w ty m xc A n c S tp nv k v wr) (hb : Below wr.heap.size wr w9) : LB w ty m xc A n c S tp nv k v w9 :=
  ⟨h.x.below hb h.x.lt, h.r.below hb h.r.lt, h.t.below hb h.t.lt, h.s.below hb, h.ty.below hb, h.b.trans (hb.mono h.b.size)⟩
/-- One step. -/
theorem LB.next {g gg cap : Nat} {P : Nat → Nat} (h : LB w ty m xc A n c S tp nv k v w9) (hP : w9.ownsRow w.heap.size 68 3 v k (els P k)) (hQ : ∀ i, i < k → Blk w9 (P i) 81 #[.string (S i), .slice none 0 0, .bool false])
    (hg : Blk w9 g 81 #[.string (S k), .slice none 0 0, .bool false]) (o : Obj)
    (hown : w1.ownsRow w.heap.size 68 3 (.slice (some ⟨gg, 0, none⟩) (k + 1) cap) (k + 1) (els P k ++ [.iface 78 (.pointer (some ⟨g, 0, none⟩)), .int .i32 0, .int .i32 0])) (hgrow : (w9.alloc o).grownBy w1 v.ownBlock) :
    LB w ty m xc A n c S tp nv (k + 1) (.slice (some ⟨gg, 0, none⟩) (k + 1) cap) (w1.setCell ⟨w.heap.size + 1 + 1, 1, none⟩ (.slice (some ⟨gg, 0, none⟩) (k + 1) cap)) := by
  have far : ∀ {q : Nat} {t : TypeId} {cs : Array Value}, Blk w9 q t cs → t ≠ 68 → Blk w1 q t cs := fun hq ht => (hq.alloc o).grown hgrow (fun e => own_ne hP hq ht e.symm)
  have hsz := h.t.lt
  have et := far h.t (by decide)
  have n1 : ¬ w.heap.size = w.heap.size + 1 + 1 := by omega
  have n2 : ¬ w.heap.size + 1 = w.heap.size + 1 + 1 := by omega
  have hlow : Below w.heap.size w w1 := by
    refine ⟨hgrow.os.trans h.b.os, hgrow.tape.trans h.b.tape, hgrow.output.trans h.b.output, ?_, fun q hq => ?_⟩
    · have h1 := hgrow.size; simp at h1; have := h.b.size; omega
    · have h1 := h.b.size
      rw [hgrow.block q (by simp; omega) (fun e => by have := (hP.lt q e.symm).1; omega), Below.heap_alloc w9 o q (by omega)]
      exact h.b.block q hq
  have hs' : Subs w.heap.size w1 (.slice (some ⟨gg, 0, none⟩) (k + 1) cap) (k + 1) S := by
    refine ⟨fun i => if i = k then g else P i, ?_, fun i hi => ?_⟩
    · have e1 : els (fun i => if i = k then g else P i) (k + 1) = els P k ++ [.iface 78 (.pointer (some ⟨g, 0, none⟩)), .int .i32 0, .int .i32 0] := by
        simp only [els, if_true]
        rw [els_congr (P := fun i => if i = k then g else P i) (Q := P) (fun i hi => if_neg (by omega))]
      rw [e1]; exact hown
    · by_cases e : i = k
      · subst e; simp only [if_true]; exact far hg (by decide)
      · simp only [e, if_false]; exact far (hQ i (by omega)) (by decide)
  have hty : TyAt (w1.setCell ⟨w.heap.size + 1 + 1, 1, none⟩ (.slice (some ⟨gg, 0, none⟩) (k + 1) cap)) tp ty := by
    have h0 := h.ty
    unfold TyAt at h0 ⊢
    split
    · rename_i e; rw [if_pos e] at h0; exact h0
    · rename_i e; rw [if_neg e] at h0
      obtain ⟨q, e1, e2⟩ := h0
      refine ⟨q, e1, (far e2 (by decide)).far (fun e3 => ?_) _⟩
      simp only at e3
      have h4 := h.t
      unfold Blk at h4 e2
      rw [← e3, e2] at h4
      simp only [Option.some.injEq, Obj.cells.injEq] at h4
      exact absurd h4.2.1 (by decide)
  exact ⟨(far h.x (by decide)).far n1 _, (far h.r (by decide)).far n2 _, et.set_ 1 _, hs'.far et (by decide) (by decide) _, hty,
    hlow.setCell (by show w.heap.size ≤ w.heap.size + 1 + 1; omega) _⟩
end
theorem Subs.form {base n : Nat} {w : World} {v : Value} {S : Nat → ByteArray} (h : Subs base w v n S) : ∃ a l c, v = .slice a l c := by
  obtain ⟨P, h1, -⟩ := h
  rcases h1.2 with ⟨rfl, -⟩ | ⟨g, cap, cur, rfl, -⟩
  · exact ⟨_, _, _, rfl⟩
  · exact ⟨_, _, _, rfl⟩
/-- The result is laid. -/
def Dn (w : World) (ty : Int) (xc : Int) (S : Nat → ByteArray) (tp v nv : Value) (k : Nat) (wz : World) : Prop :=
  wz.cell? ⟨w.heap.size + 1, 0, none⟩ = some tp ∧ wz.cell? ⟨w.heap.size + 1, 1, none⟩ = some v ∧ wz.cell? ⟨w.heap.size + 1, 2, none⟩ = some nv ∧ wz.cell? ⟨w.heap.size + 1, 3, none⟩ = some (.int .i32 0) ∧
      wz.cell? ⟨w.heap.size + 1, 4, none⟩ = some (.int .u8 (cb xc)) ∧ wz.cell? ⟨w.heap.size + 1, 5, none⟩ = some (.bool false) ∧ TyAt wz tp ty ∧ Subs w.heap.size wz v k S ∧ Below w.heap.size w wz
/-- A block of six cells, stored anew. -/
theorem blk6 {w : World} {g : Nat} {t : TypeId} {a b c d e f : Value} (h : Blk w g t #[a, b, c, d, e, f]) (u0 u1 u2 u3 u4 u5 : Value) :
    Blk ((((((w.setCell ⟨g, 0, none⟩ u0).setCell ⟨g, 1, none⟩ u1).setCell ⟨g, 2, none⟩ u2).setCell ⟨g, 3, none⟩ u3).setCell ⟨g, 4, none⟩ u4).setCell ⟨g, 5, none⟩ u5) g t #[u0, u1, u2, u3, u4, u5] := by
  have h0 := (((((h.set_ 0 u0).set_ 1 u1).set_ 2 u2).set_ 3 u3).set_ 4 u4).set_ 5 u5
  simp only [List.setIfInBounds_toArray, List.set_cons_zero, List.set_cons_succ] at h0
  exact h0
theorem Subs.six {base n : Nat} {w : World} {v : Value} {S : Nat → ByteArray} (h : Subs base w v n S) {g : Nat} {t : TypeId} {cs : Array Value} (hb : Blk w g t cs) (h1 : t ≠ 68) (h2 : t ≠ 81) (u0 u1 u2 u3 u4 u5 : Value) :
    Subs base ((((((w.setCell ⟨g, 0, none⟩ u0).setCell ⟨g, 1, none⟩ u1).setCell ⟨g, 2, none⟩ u2).setCell ⟨g, 3, none⟩ u3).setCell ⟨g, 4, none⟩ u4).setCell ⟨g, 5, none⟩ u5) v n S :=
  (((((h.far hb h1 h2 u0).far (hb.set_ 0 u0) h1 h2 u1).far ((hb.set_ 0 u0).set_ 1 u1) h1 h2 u2).far (((hb.set_ 0 u0).set_ 1 u1).set_ 2 u2) h1 h2 u3).far ((((hb.set_ 0 u0).set_ 1 u1).set_ 2 u2).set_ 3 u3) h1 h2 u4).far (((((hb.set_ 0 u0).set_ 1 u1).set_ 2 u2).set_ 3 u3).set_ 4 u4) h1 h2 u5
theorem TyAt.six {w : World} {p : Value} {ty : Int} (h : TyAt w p ty) {g : Nat} {t : TypeId} {cs : Array Value} (hb : Blk w g t cs) (h1 : t ≠ 76) (u0 u1 u2 u3 u4 u5 : Value) :
    TyAt ((((((w.setCell ⟨g, 0, none⟩ u0).setCell ⟨g, 1, none⟩ u1).setCell ⟨g, 2, none⟩ u2).setCell ⟨g, 3, none⟩ u3).setCell ⟨g, 4, none⟩ u4).setCell ⟨g, 5, none⟩ u5) p ty :=
  (((((h.far hb h1 u0).far (hb.set_ 0 u0) h1 u1).far ((hb.set_ 0 u0).set_ 1 u1) h1 u2).far (((hb.set_ 0 u0).set_ 1 u1).set_ 2 u2) h1 u3).far ((((hb.set_ 0 u0).set_ 1 u1).set_ 2 u2).set_ 3 u3) h1 u4).far (((((hb.set_ 0 u0).set_ 1 u1).set_ 2 u2).set_ 3 u3).set_ 4 u4) h1 u5
theorem LB.done {w wr : World} {ty : Int} {m : Nat} {xc : Int} {A : Option Addr} {n c : Nat} {S : Nat → ByteArray} {tp nv : Value} {k : Nat} {v : Value} (h : LB w ty m xc A n c S tp nv k v wr) :
    Dn w ty xc S tp v nv k ((((((wr.setCell ⟨w.heap.size + 1, 0, none⟩ tp).setCell ⟨w.heap.size + 1, 1, none⟩ v).setCell ⟨w.heap.size + 1, 2, none⟩ nv).setCell ⟨w.heap.size + 1, 3, none⟩ (.int .i32 0)).setCell ⟨w.heap.size + 1, 4, none⟩ (.int .u8 (cb xc))).setCell ⟨w.heap.size + 1, 5, none⟩ (.bool false)) := by
  have hb := blk6 h.r tp v nv (.int .i32 0) (.int .u8 (cb xc)) (.bool false)
  have L : w.heap.size ≤ w.heap.size + 1 := by omega
  exact ⟨hb.cell 0, hb.cell 1, hb.cell 2, hb.cell 3, hb.cell 4, hb.cell 5, h.ty.six h.r (by decide) _ _ _ _ _ _, h.s.six h.r (by decide) (by decide) _ _ _ _ _ _, (((((h.b.setCell L _).setCell L _).setCell L _).setCell L _).setCell L _).setCell L _⟩
theorem LB.free {w w9 w1 : World} {ty : Int} {m : Nat} {xc : Int} {A : Option Addr} {n c : Nat} {S : Nat → ByteArray} {tp nv : Value} {k : Nat} {v : Value} {P : Nat → Nat} {o : Obj} (h : LB w ty m xc A n c S tp nv k v w9) (hP : w9.ownsRow w.heap.size 68 3 v k (els P k)) (hgrow : (w9.alloc o).grownBy w1 v.ownBlock) :
    w1.frozen? ⟨w.heap.size + 1 + 1, 1, none⟩ = false :=
  ((h.t.alloc o).grown hgrow (fun e => own_ne hP h.t (by decide) e.symm)).frozen 1
theorem LZ.third (w : World) (ty : Int) (m : Nat) (xc : Int) (A : Option Addr) (n c : Nat) : Blk (((w.alloc (.cells #[.int .u8 ty, .int .u8 m, .slice A n c] 35)).alloc (.cells #[.pointer none, .slice none 0 0, .slice none 0 0, .int .i32 0, .int .u8 0, .bool false] 46)).alloc (.cells #[.pointer none, .slice none 0 0, .slice none 0 0, .int .i32 0, .int .u8 (cb xc), .bool false] 46)) (w.heap.size + 1 + 1) 46 #[.pointer none, .slice none 0 0, .slice none 0 0, .int .i32 0, .int .u8 (cb xc), .bool false] := by
  have h := Blk.new ((w.alloc (.cells #[.int .u8 ty, .int .u8 m, .slice A n c] 35)).alloc (.cells #[.pointer none, .slice none 0 0, .slice none 0 0, .int .i32 0, .int .u8 0, .bool false] 46)) 46 #[.pointer none, .slice none 0 0, .slice none 0 0, .int .i32 0, .int .u8 (cb xc), .bool false]
  simpa using h
set_option maxRecDepth 100000 in
set_option maxHeartbeats 4000000 in
theorem build11 (ty : Int) (m : Nat) (xc : Int) (A : Option Addr) (n c : Nat) (S : Nat → ByteArray) (w : World) (h1 : 0 ≤ ty) (h2 : ty ≤ 255) (hm : m ≤ 255) (h3 : 0 ≤ xc) (h4 : xc ≤ 255) (hn : n ≤ 4096)
    (hA : Strs w A n S) (hs : ∀ i, i < n → (S i).size ≤ 1048576) :
    Calls Try.prog 11 #[.agg #[.int .u8 ty, .int .u8 m, .slice A n c], .int .u8 xc] w fun e w' => ∃ tp v nv, e = .returned (.agg #[tp, v, nv, .int .i32 0, .int .u8 (cb xc), .bool false]) ∧
      TyAt w' tp ty ∧ NsV nv m ∧ Subs w.heap.size w' v n S ∧ Below w.heap.size w w' := by
  have HA := Lib.hid hA
  have HS := Lib.hid hs
  clear hA hs
  by_cases hty : ty = 0
  · subst hty
    have Z0 := Lib.hid (LZ.start w m xc A n c)
    go_enter Try.func11, Try.ntmps11
    go_wp2_with (go_at_call 13; refine (comb13 _ _ h3 h4).mono ?_; rintro e w' ⟨rfl, rfl⟩)
    generalize ((w.alloc (.cells #[.int .u8 0, .int .u8 m, .slice A n c] 35)).alloc (.cells #[.pointer none, .slice none 0 0, .slice none 0 0, .int .i32 0, .int .u8 0, .bool false] 46)).alloc (.cells #[.pointer none, .slice none 0 0, .slice none 0 0, .int .i32 0, .int .u8 (cb xc), .bool false] 46) = W0 at *
    refine (nest18 _ _ hm).mono ?_
    rintro e w1 ⟨nv, rfl, ⟨na, nc, rfl⟩, hb1⟩
    have L0 := Lib.hid (Z0.out.loop S hb1 (.slice na m nc))
    have Q0 := Lib.hid (Z0.out.below hb1)
    have c2 : w1.cell? ⟨w.heap.size + 1 + 1, 2, none⟩ = some (.slice none 0 0) := Q0.out.2.2.1.cell 2
    have f2 : w1.frozen? ⟨w.heap.size + 1 + 1, 2, none⟩ = false := Q0.out.2.2.1.frozen 2
    obtain ⟨tp, htp⟩ : ∃ tp : Option Addr, tp = none := ⟨_, rfl⟩
    rw [← htp] at L0
    clear htp hb1 Z0 Q0
    go_wp2_with fail
    clear c2 f2
    generalize w1.setCell ⟨w.heap.size + 1 + 1, 2, none⟩ (.slice na m nc) = W2 at *
    clear h1 h2
    go_loopw [6] (fun i wr => ∃ (k : Nat) (v : Value), k ≤ n ∧ i = .int .i64 k ∧ Hid (LB w 0 m xc A n c S (.pointer tp) (.slice na m nc) k v wr)) (fun i _ => n - (intOf i).toNat)
    case atStart => exact ⟨0, _, Nat.zero_le _, rfl, L0⟩
    case round =>
      obtain ⟨k, v, hk, rfl, LL⟩ := hrel
      clear L0
      have x2 : wr.cell? ⟨w.heap.size, 2, none⟩ = some (.slice A n c) := LL.out.x.cell 2
      by_cases hlt : k < n
      · obtain ⟨b, o, hAe, hlb, hc⟩ := HA.out (by omega)
        subst hAe
        have x3 : wr.cell? ⟨b, o + k, none⟩ = some (.string (S k)) := by rw [LL.out.b.cell hlb]; exact hc k hlt
        clear hc
        have q1 : (0 : Int) ≤ (k : Int) := by omega
        have q2 : (k : Int) < (n : Int) := by omega
        go_upto_block 1 with fail
        obtain ⟨P, hown, hP⟩ := LL.out.s
        have OW := Lib.hid hown
        have OP := Lib.hid hP
        have HN5 := Lib.hid (own_ne hown LL.out.t (by decide))
        have HSZ := Lib.hid (show w.heap.size ≤ wr.heap.size from LL.out.b.size)
        have ST := Lib.hid (show BJ (w.heap.size + 1 + 1) w.heap.size b (o + k) v (.slice (some ⟨b, o, none⟩) n c) (S k) wr from ⟨LL.out.t.cell 1, x2, x3, LL.out.t.frozen 1⟩)
        have x1 : wr.cell? ⟨w.heap.size + 1 + 1, 1, none⟩ = some v := LL.out.t.cell 1
        obtain ⟨i0, hi, hz0, hz1, hz2⟩ := info_parts info68
        clear hown hP
        go_cut [] (fun wx => ∃ v', Hid (LB w 0 m xc (some ⟨b, o, none⟩) n c S (.pointer tp) (.slice na m nc) (k + 1) v' wx))
        case first =>
          go_wp2_with fail
          go_region_law (first
            | (go_simp; go_at_call 20; refine (bare20 _ _).mono ?_; rintro e_ w9 ⟨bg, rfl, hbg, hb9, hge9⟩; dsimp only; obtain ⟨z1, z2, z3, z4⟩ := ST.out.step (((Below.refl wr.heap.size wr).drew).trans hb9); have HB9 := Lib.hid (((Below.refl wr.heap.size wr).drew).trans hb9); have HBG := Lib.hid hbg; have zs : w.heap.size ≤ w9.heap.size := Nat.le_trans HSZ.out HB9.out.size; have zl : w.heap.size + 1 + 1 < w9.heap.size := World.block_lt_of_cell? w9 _ z1; have zn : ¬ w.heap.size + 1 + 1 = w9.heap.size := Nat.ne_of_lt zl; clear hb9 hbg hge9)
            | (refine step_append_lies _ (by rfl) _ _ _ (by rfl) w.heap.size 68 i0 _ 3 24 Try.underlying39 hi hz0 hz1 hz2 rfl (by omega) v k (els P k) (by rfl) ((own_below OW.out HB9.out).alloc _) ⟨w9.heap.size, 0, none⟩ 1 1 [.iface 78 (.pointer (some ⟨bg, 0, none⟩)), .int .i32 0, .int .i32 0] (by rfl) (by rfl) (World.news_of_block (heap_alloc_new w9 _)) (by simp [Value.oneCell']) (by omega) (by unfold maxLen; omega) (by omega) (by simp; omega) (w9.heap.size + 1) (by simp) ?_; intro gg cap w10 hown1 hgrow hat hlt9; have LN := Lib.hid (LB.next (LL.out.below HB9.out) (own_below OW.out HB9.out) (fun i hi => (OP.out i hi).below HB9.out (OP.out i hi).lt) HBG.out _ hown1 hgrow); have y1 := hgrow.cell (((Below.refl w9.heap.size w9).alloc (Nat.le_refl _) _).cell (World.block_lt_of_cell? w9 _ z1) |>.trans z1) (Ne.symm HN5.out); have y4 : w10.frozen? ⟨w.heap.size + 1 + 1, 1, none⟩ = false := (LB.free (LL.out.below HB9.out) (own_below OW.out HB9.out) hgrow); clear hown1 hgrow hat hlt9 z1 z2 z3 z4 zs zl zn))
          all_goals
            go_wp2_with fail
            go_meet
            exact ⟨_, LN⟩
        case rest =>
          obtain ⟨v', LN⟩ := hcut
          go_wp2_with fail
          go_roundw
          case rel => exact ⟨k + 1, _, by omega, by go_num, LN⟩
          case measure => simp [intOf]; omega
      · obtain rfl : k = n := by omega
        obtain ⟨va, vl, vc, rfl⟩ := LL.out.s.form
        have HZ := Lib.hid (LL.out.done)
        have y0 : wr.cell? ⟨w.heap.size + 1 + 1, 0, none⟩ = some (.pointer tp) := LL.out.t.cell 0
        have y1 : wr.cell? ⟨w.heap.size + 1 + 1, 1, none⟩ = some (.slice va vl vc) := LL.out.t.cell 1
        have y2 : wr.cell? ⟨w.heap.size + 1 + 1, 2, none⟩ = some (.slice na m nc) := LL.out.t.cell 2
        have y3 : wr.cell? ⟨w.heap.size + 1 + 1, 3, none⟩ = some (.int .i32 0) := LL.out.t.cell 3
        have y4 : wr.cell? ⟨w.heap.size + 1 + 1, 4, none⟩ = some (.int .u8 (cb xc)) := LL.out.t.cell 4
        have y5 : wr.cell? ⟨w.heap.size + 1 + 1, 5, none⟩ = some (.bool false) := LL.out.t.cell 5
        have z0 : wr.cell? ⟨w.heap.size + 1, 0, none⟩ = some (.pointer none) := LL.out.r.cell 0
        have f0 : wr.frozen? ⟨w.heap.size + 1, 0, none⟩ = false := LL.out.r.frozen 0
        have z1 : wr.cell? ⟨w.heap.size + 1, 1, none⟩ = some (.slice none 0 0) := LL.out.r.cell 1
        have f1 : wr.frozen? ⟨w.heap.size + 1, 1, none⟩ = false := LL.out.r.frozen 1
        have z2 : wr.cell? ⟨w.heap.size + 1, 2, none⟩ = some (.slice none 0 0) := LL.out.r.cell 2
        have f2 : wr.frozen? ⟨w.heap.size + 1, 2, none⟩ = false := LL.out.r.frozen 2
        have z3 : wr.cell? ⟨w.heap.size + 1, 3, none⟩ = some (.int .i32 0) := LL.out.r.cell 3
        have f3 : wr.frozen? ⟨w.heap.size + 1, 3, none⟩ = false := LL.out.r.frozen 3
        have z4 : wr.cell? ⟨w.heap.size + 1, 4, none⟩ = some (.int .u8 0) := LL.out.r.cell 4
        have f4 : wr.frozen? ⟨w.heap.size + 1, 4, none⟩ = false := LL.out.r.frozen 4
        have z5 : wr.cell? ⟨w.heap.size + 1, 5, none⟩ = some (.bool false) := LL.out.r.cell 5
        have f5 : wr.frozen? ⟨w.heap.size + 1, 5, none⟩ = false := LL.out.r.frozen 5
        go_wp2_with fail
        clear y0 y1 y2 y3 y4 y5 z0 z1 z2 z3 z4 z5 f0 f1 f2 f3 f4 f5 x2
        generalize (((((wr.setCell ⟨w.heap.size + 1, 0, none⟩ (.pointer tp)).setCell ⟨w.heap.size + 1, 1, none⟩ (.slice va vl vc)).setCell ⟨w.heap.size + 1, 2, none⟩ (.slice na m nc)).setCell ⟨w.heap.size + 1, 3, none⟩ (.int .i32 0)).setCell ⟨w.heap.size + 1, 4, none⟩ (.int .u8 (cb xc))).setCell ⟨w.heap.size + 1, 5, none⟩ (.bool false) = wz at *
        have hd := HZ.out
        clear HZ
        unfold Dn at hd
        obtain ⟨u0, u1, u2, u3, u4, u5, hz⟩ := hd
        have HZ := Lib.hid hz
        clear hz
        refine bodyPost_ret (v := .agg #[.pointer tp, .slice va vl vc, .slice na m nc, .int .i32 0, .int .u8 (cb xc), .bool false]) (by simp [results, Try.results11, go_sem, u0, u1, u2, u3, u4, u5]; done) rfl ?_
        exact ⟨_, _, _, rfl, HZ.out.1, ⟨_, _, rfl⟩, HZ.out.2.1, HZ.out.2.2⟩
  · have hh : (ty == 0) = false := by simp [hty]
    have hh2 : (ty != 0) = true := by simp [hty]
    have Z0 := Lib.hid (LZ.start' w ty m xc A n c)
    have hty' : 1 ≤ ty := by omega
    have HTY := Lib.hid hty
    have P3 := Lib.hid (LZ.third w ty m xc A n c)
    clear hty
    go_enter Try.func11, Try.ntmps11
    go_wp2_with (go_at_call 13; refine (comb13 _ _ h3 h4).mono ?_; rintro e w' ⟨rfl, rfl⟩)
    generalize ((w.alloc (.cells #[.int .u8 ty, .int .u8 m, .slice A n c] 35)).alloc (.cells #[.pointer none, .slice none 0 0, .slice none 0 0, .int .i32 0, .int .u8 0, .bool false] 46)).alloc (.cells #[.pointer none, .slice none 0 0, .slice none 0 0, .int .i32 0, .int .u8 (cb xc), .bool false] 46) = W0 at *
    refine (type17 _ _ hty' h2).mono ?_
    rintro e w0 ⟨tg, rfl, htg, hb0⟩
    have Z1 := Lib.hid (Z0.out w0 tg hb0 HTY.out htg)
    have Q0 := Lib.hid (P3.out.below hb0 P3.out.lt)
    have c0 : w0.cell? ⟨w.heap.size + 1 + 1, 0, none⟩ = some (.pointer none) := Q0.out.cell 0
    have f0 : w0.frozen? ⟨w.heap.size + 1 + 1, 0, none⟩ = false := Q0.out.frozen 0
    have c1 : (w0.setCell ⟨w.heap.size + 1 + 1, 0, none⟩ (.pointer (some ⟨tg, 0, none⟩))).cell? ⟨w.heap.size, 1, none⟩ = some (.int .u8 m) := Z1.out.1.cell 1
    clear htg hb0 Z0 P3 Q0
    go_wp2_with fail
    clear c0 f0 c1
    generalize w0.setCell ⟨w.heap.size + 1 + 1, 0, none⟩ (.pointer (some ⟨tg, 0, none⟩)) = W1 at *
    refine (nest18 _ _ hm).mono ?_
    rintro e w1 ⟨nv, rfl, ⟨na, nc, rfl⟩, hb1⟩
    have L0 := Lib.hid (Z1.out.loop S hb1 (.slice na m nc))
    have Q0 := Lib.hid (Z1.out.below hb1)
    have c2 : w1.cell? ⟨w.heap.size + 1 + 1, 2, none⟩ = some (.slice none 0 0) := Q0.out.2.2.1.cell 2
    have f2 : w1.frozen? ⟨w.heap.size + 1 + 1, 2, none⟩ = false := Q0.out.2.2.1.frozen 2
    obtain ⟨tp, htp⟩ : ∃ tp : Option Addr, tp = some ⟨tg, 0, none⟩ := ⟨_, rfl⟩
    rw [← htp] at L0
    clear htp hb1 Z1 Q0
    go_wp2_with fail
    clear c2 f2
    generalize w1.setCell ⟨w.heap.size + 1 + 1, 2, none⟩ (.slice na m nc) = W2 at *
    clear h1 h2 hh hh2 hty'
    go_loopw [6] (fun i wr => ∃ (k : Nat) (v : Value), k ≤ n ∧ i = .int .i64 k ∧ Hid (LB w ty m xc A n c S (.pointer tp) (.slice na m nc) k v wr)) (fun i _ => n - (intOf i).toNat)
    case atStart => exact ⟨0, _, Nat.zero_le _, rfl, L0⟩
    case round =>
      obtain ⟨k, v, hk, rfl, LL⟩ := hrel
      clear L0
      have x2 : wr.cell? ⟨w.heap.size, 2, none⟩ = some (.slice A n c) := LL.out.x.cell 2
      by_cases hlt : k < n
      · obtain ⟨b, o, hAe, hlb, hc⟩ := HA.out (by omega)
        subst hAe
        have x3 : wr.cell? ⟨b, o + k, none⟩ = some (.string (S k)) := by rw [LL.out.b.cell hlb]; exact hc k hlt
        clear hc
        have q1 : (0 : Int) ≤ (k : Int) := by omega
        have q2 : (k : Int) < (n : Int) := by omega
        go_upto_block 1 with fail
        obtain ⟨P, hown, hP⟩ := LL.out.s
        have OW := Lib.hid hown
        have OP := Lib.hid hP
        have HN5 := Lib.hid (own_ne hown LL.out.t (by decide))
        have HSZ := Lib.hid (show w.heap.size ≤ wr.heap.size from LL.out.b.size)
        have ST := Lib.hid (show BJ (w.heap.size + 1 + 1) w.heap.size b (o + k) v (.slice (some ⟨b, o, none⟩) n c) (S k) wr from ⟨LL.out.t.cell 1, x2, x3, LL.out.t.frozen 1⟩)
        have x1 : wr.cell? ⟨w.heap.size + 1 + 1, 1, none⟩ = some v := LL.out.t.cell 1
        obtain ⟨i0, hi, hz0, hz1, hz2⟩ := info_parts info68
        clear hown hP
        go_cut [] (fun wx => ∃ v', Hid (LB w ty m xc (some ⟨b, o, none⟩) n c S (.pointer tp) (.slice na m nc) (k + 1) v' wx))
        case first =>
          go_wp2_with fail
          go_region_law (first
            | (go_simp; go_at_call 20; refine (bare20 _ _).mono ?_; rintro e_ w9 ⟨bg, rfl, hbg, hb9, hge9⟩; dsimp only; obtain ⟨z1, z2, z3, z4⟩ := ST.out.step (((Below.refl wr.heap.size wr).drew).trans hb9); have HB9 := Lib.hid (((Below.refl wr.heap.size wr).drew).trans hb9); have HBG := Lib.hid hbg; have zs : w.heap.size ≤ w9.heap.size := Nat.le_trans HSZ.out HB9.out.size; have zl : w.heap.size + 1 + 1 < w9.heap.size := World.block_lt_of_cell? w9 _ z1; have zn : ¬ w.heap.size + 1 + 1 = w9.heap.size := Nat.ne_of_lt zl; clear hb9 hbg hge9)
            | (refine step_append_lies _ (by rfl) _ _ _ (by rfl) w.heap.size 68 i0 _ 3 24 Try.underlying39 hi hz0 hz1 hz2 rfl (by omega) v k (els P k) (by rfl) ((own_below OW.out HB9.out).alloc _) ⟨w9.heap.size, 0, none⟩ 1 1 [.iface 78 (.pointer (some ⟨bg, 0, none⟩)), .int .i32 0, .int .i32 0] (by rfl) (by rfl) (World.news_of_block (heap_alloc_new w9 _)) (by simp [Value.oneCell']) (by omega) (by unfold maxLen; omega) (by omega) (by simp; omega) (w9.heap.size + 1) (by simp) ?_; intro gg cap w10 hown1 hgrow hat hlt9; have LN := Lib.hid (LB.next (LL.out.below HB9.out) (own_below OW.out HB9.out) (fun i hi => (OP.out i hi).below HB9.out (OP.out i hi).lt) HBG.out _ hown1 hgrow); have y1 := hgrow.cell (((Below.refl w9.heap.size w9).alloc (Nat.le_refl _) _).cell (World.block_lt_of_cell? w9 _ z1) |>.trans z1) (Ne.symm HN5.out); have y4 : w10.frozen? ⟨w.heap.size + 1 + 1, 1, none⟩ = false := (LB.free (LL.out.below HB9.out) (own_below OW.out HB9.out) hgrow); clear hown1 hgrow hat hlt9 z1 z2 z3 z4 zs zl zn))
          all_goals
            go_wp2_with fail
            go_meet
            exact ⟨_, LN⟩
        case rest =>
          obtain ⟨v', LN⟩ := hcut
          go_wp2_with fail
          go_roundw
          case rel => exact ⟨k + 1, _, by omega, by go_num, LN⟩
          case measure => simp [intOf]; omega
      · obtain rfl : k = n := by omega
        obtain ⟨va, vl, vc, rfl⟩ := LL.out.s.form
        have HZ := Lib.hid (LL.out.done)
        have y0 : wr.cell? ⟨w.heap.size + 1 + 1, 0, none⟩ = some (.pointer tp) := LL.out.t.cell 0
        have y1 : wr.cell? ⟨w.heap.size + 1 + 1, 1, none⟩ = some (.slice va vl vc) := LL.out.t.cell 1
        have y2 : wr.cell? ⟨w.heap.size + 1 + 1, 2, none⟩ = some (.slice na m nc) := LL.out.t.cell 2
        have y3 : wr.cell? ⟨w.heap.size + 1 + 1, 3, none⟩ = some (.int .i32 0) := LL.out.t.cell 3
        have y4 : wr.cell? ⟨w.heap.size + 1 + 1, 4, none⟩ = some (.int .u8 (cb xc)) := LL.out.t.cell 4
        have y5 : wr.cell? ⟨w.heap.size + 1 + 1, 5, none⟩ = some (.bool false) := LL.out.t.cell 5
        have z0 : wr.cell? ⟨w.heap.size + 1, 0, none⟩ = some (.pointer none) := LL.out.r.cell 0
        have f0 : wr.frozen? ⟨w.heap.size + 1, 0, none⟩ = false := LL.out.r.frozen 0
        have z1 : wr.cell? ⟨w.heap.size + 1, 1, none⟩ = some (.slice none 0 0) := LL.out.r.cell 1
        have f1 : wr.frozen? ⟨w.heap.size + 1, 1, none⟩ = false := LL.out.r.frozen 1
        have z2 : wr.cell? ⟨w.heap.size + 1, 2, none⟩ = some (.slice none 0 0) := LL.out.r.cell 2
        have f2 : wr.frozen? ⟨w.heap.size + 1, 2, none⟩ = false := LL.out.r.frozen 2
        have z3 : wr.cell? ⟨w.heap.size + 1, 3, none⟩ = some (.int .i32 0) := LL.out.r.cell 3
        have f3 : wr.frozen? ⟨w.heap.size + 1, 3, none⟩ = false := LL.out.r.frozen 3
        have z4 : wr.cell? ⟨w.heap.size + 1, 4, none⟩ = some (.int .u8 0) := LL.out.r.cell 4
        have f4 : wr.frozen? ⟨w.heap.size + 1, 4, none⟩ = false := LL.out.r.frozen 4
        have z5 : wr.cell? ⟨w.heap.size + 1, 5, none⟩ = some (.bool false) := LL.out.r.cell 5
        have f5 : wr.frozen? ⟨w.heap.size + 1, 5, none⟩ = false := LL.out.r.frozen 5
        go_wp2_with fail
        clear y0 y1 y2 y3 y4 y5 z0 z1 z2 z3 z4 z5 f0 f1 f2 f3 f4 f5 x2
        generalize (((((wr.setCell ⟨w.heap.size + 1, 0, none⟩ (.pointer tp)).setCell ⟨w.heap.size + 1, 1, none⟩ (.slice va vl vc)).setCell ⟨w.heap.size + 1, 2, none⟩ (.slice na m nc)).setCell ⟨w.heap.size + 1, 3, none⟩ (.int .i32 0)).setCell ⟨w.heap.size + 1, 4, none⟩ (.int .u8 (cb xc))).setCell ⟨w.heap.size + 1, 5, none⟩ (.bool false) = wz at *
        have hd := HZ.out
        clear HZ
        unfold Dn at hd
        obtain ⟨u0, u1, u2, u3, u4, u5, hz⟩ := hd
        have HZ := Lib.hid hz
        clear hz
        refine bodyPost_ret (v := .agg #[.pointer tp, .slice va vl vc, .slice na m nc, .int .i32 0, .int .u8 (cb xc), .bool false]) (by simp [results, Try.results11, go_sem, u0, u1, u2, u3, u4, u5]; done) rfl ?_
        exact ⟨_, _, _, rfl, HZ.out.1, ⟨_, _, rfl⟩, HZ.out.2.1, HZ.out.2.2⟩
end Go.Proofs.Ytdonfahjcejhpaa.MG
