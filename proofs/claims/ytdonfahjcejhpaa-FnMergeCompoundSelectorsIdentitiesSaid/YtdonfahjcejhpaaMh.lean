/- The merge law of n011_210: what memory holds on the way. -/
import Derived.Test.YtdonfahjcejhpaaMg
namespace Go.Proofs.Ytdonfahjcejhpaa.MG
open Go.RowKit Go.Proofs.Ytdonfahjcejhpaa.TB
set_option linter.unusedVariables false
theorem blk_ty {w : World} {p q : Nat} {t u : TypeId} {cs ds : Array Value} (hp : Blk w p t cs) (hq : Blk w q u ds) (h : t ≠ u) : p ≠ q := by
  intro e
  subst e
  unfold Blk at hp hq
  rw [hp] at hq
  simp only [Option.some.injEq, Obj.cells.injEq] at hq
  exact h hq.2.1
section
variable {w w' : World} {q : Nat} {cs : Array Value} {t : TypeId}
theorem kept_own {base e size n : Nat} {v : Value} {xs : List Value} (h : w.ownsRow base e size v n xs) (hk : Kept w.heap.size q w w') (hq : Blk w q t cs) (ht : t ≠ e) : w'.ownsRow base e size v n xs := by
  have hne := own_ne h hq ht
  obtain ⟨h1, h2⟩ := h
  refine ⟨h1, ?_⟩
  rcases h2 with h2 | ⟨g, cap, cur, rfl, e2, e3, e4⟩
  · exact .inl h2
  · exact .inr ⟨g, cap, cur, rfl, e2, (hk.block g (Array.getElem?_eq_some_iff.1 e3).1 (fun e => hne (by simp [Value.ownBlock, e]))).trans e3, e4⟩
theorem Subs.kept {base n : Nat} {v : Value} {S : Nat → ByteArray} (h : Subs base w v n S) (hk : Kept w.heap.size q w w') (hq : Blk w q t cs) (h1 : t ≠ 68) (h2 : t ≠ 81) : Subs base w' v n S := by
  obtain ⟨P, k1, k2⟩ := h
  exact ⟨P, kept_own k1 hk hq h1, fun i hi => hk.blk (k2 i hi) (k2 i hi).lt (blk_ty (k2 i hi) hq (Ne.symm h2))⟩
theorem TyAt.kept {p : Value} {y : Int} (h : TyAt w p y) (hk : Kept w.heap.size q w w') (hq : Blk w q t cs) (h1 : t ≠ 76) : TyAt w' p y := by
  unfold TyAt at h ⊢
  split
  · rename_i e; rw [if_pos e] at h; exact h
  · rename_i e; rw [if_neg e] at h
    obtain ⟨g, e1, e2⟩ := h
    exact ⟨g, e1, hk.blk e2 e2.lt (blk_ty e2 hq (Ne.symm h1))⟩
end
/-- A compound selector and the group observed of it. -/
structure M1 (w : World) (ty : Int) (m : Nat) (A : Option Addr) (n c : Nat) (S : Nat → ByteArray) (xc : Int) (tp : Option Addr) (v nv gv : Value) (g7 g8 b1 b2 : Nat) (W : World) : Prop where
  x : Blk W w.heap.size 35 #[.int .u8 ty, .int .u8 m, .slice A n c]
  t : Blk W g7 46 #[.pointer tp, v, nv, .int .i32 0, .int .u8 (cb xc), .bool false]
  o : Blk W g8 49 #[.int .u8 (cb xc), .string (tt ty), .int .i64 m, gv, .bool false]
  s : Subs b1 W v n S
  y : TyAt W (.pointer tp) ty
  g : W.ownsRow b2 9 1 gv n (sls (dots S) n)
  b : Below w.heap.size w W
  h7 : w.heap.size ≤ g7
section
variable {w W W' : World} {ty : Int} {m : Nat} {A : Option Addr} {n c : Nat} {S : Nat → ByteArray} {xc : Int} {tp : Option Addr} {v nv gv : Value} {g7 g8 b1 b2 : Nat}
theorem M1.below (h : M1 w ty m A n c S xc tp v nv gv g7 g8 b1 b2 W) (hb : Below W.heap.size W W') : M1 w ty m A n c S xc tp v nv gv g7 g8 b1 b2 W' :=
  ⟨h.x.below hb h.x.lt, h.t.below hb h.t.lt, h.o.below hb h.o.lt, h.s.below hb, h.y.below hb, own_below h.g hb, h.b.trans (hb.mono h.b.size), h.h7⟩
theorem M1.kept7 (h : M1 w ty m A n c S xc tp v nv gv g7 g8 b1 b2 W) (hk : Kept W.heap.size g7 W W') (ht : Blk W' g7 46 #[.pointer tp, v, nv, .int .i32 0, .int .u8 (cb xc), .bool false]) : M1 w ty m A n c S xc tp v nv gv g7 g8 b1 b2 W' :=
  ⟨hk.blk h.x h.x.lt (blk_ty h.x h.t (by decide)), ht, hk.blk h.o h.o.lt (blk_ty h.o h.t (by decide)), h.s.kept hk h.t (by decide) (by decide), h.y.kept hk h.t (by decide), kept_own h.g hk h.t (by decide),
    h.b.trans (hk.below h.b.size h.h7), h.h7⟩
theorem M1.keptq {q : Nat} {cs : Array Value} (h : M1 w ty m A n c S xc tp v nv gv g7 g8 b1 b2 W) (hk : Kept W.heap.size q W W') (hq : Blk W q 46 cs) (hne : g7 ≠ q) (hl : w.heap.size ≤ q) : M1 w ty m A n c S xc tp v nv gv g7 g8 b1 b2 W' :=
  ⟨hk.blk h.x h.x.lt (blk_ty h.x hq (by decide)), hk.blk h.t h.t.lt hne, hk.blk h.o h.o.lt (blk_ty h.o hq (by decide)), h.s.kept hk hq (by decide) (by decide), h.y.kept hk hq (by decide), kept_own h.g hk hq (by decide),
    h.b.trans (hk.below h.b.size hl), h.h7⟩
end
/-- A group laid by the observing. -/
theorem gp_of {W : World} {g base n : Nat} {t : TypeId} {cB : Int} {ty : ByteArray} {m : Int} {we : Bool} {gv : Value} {S : Nat → ByteArray} (hB : Blk W g t #[.int .u8 cB, .string ty, .int .i64 m, gv, .bool we]) (ho : W.ownsRow base 9 1 gv n (sls (dots S) n)) :
    Gp W g cB ty m we n (dots S) := by
  refine ⟨hB.cell 0, hB.cell 1, hB.cell 2, ?_, hB.cell 4⟩
  have hv : ∃ a c, gv = .slice a n c := by
    rcases ho.2 with ⟨rfl, rfl⟩ | ⟨g', cap, cur, rfl, -⟩
    · exact ⟨_, _, rfl⟩
    · exact ⟨_, _, rfl⟩
  obtain ⟨a, c, rfl⟩ := hv
  refine ⟨a, c, hB.cell 3, fun hn => ?_⟩
  obtain ⟨b, cap, e, -, -⟩ := ho.form hn
  simp only [Value.slice.injEq] at e
  obtain ⟨rfl, -, rfl⟩ := e
  refine ⟨b, rfl, fun i hi => ?_⟩
  rw [ho.cellAt i (by omega), sls_get _ hi]
/-- What a comparison loads. -/
def QM (g7 g8 : Nat) (tp : Option Addr) (v nv : Value) (cB : Int) (ty : ByteArray) (m : Int) (gv : Value) (cC : Int) (w' : World) : Prop :=
  w'.cell? ⟨g7, 0, none⟩ = some (.pointer tp) ∧ w'.cell? ⟨g7, 1, none⟩ = some v ∧ w'.cell? ⟨g7, 2, none⟩ = some nv ∧ w'.cell? ⟨g7, 3, none⟩ = some (.int .i32 0) ∧ w'.cell? ⟨g7, 4, none⟩ = some (.int .u8 cB) ∧ w'.cell? ⟨g7, 5, none⟩ = some (.bool false) ∧
  w'.cell? ⟨g8, 0, none⟩ = some (.int .u8 cC) ∧ w'.cell? ⟨g8, 1, none⟩ = some (.string ty) ∧ w'.cell? ⟨g8, 2, none⟩ = some (.int .i64 m) ∧ w'.cell? ⟨g8, 3, none⟩ = some gv ∧ w'.cell? ⟨g8, 4, none⟩ = some (.bool false)
theorem QM.step {g7 g8 : Nat} {tp : Option Addr} {v nv : Value} {cB : Int} {ty : ByteArray} {m : Int} {gv : Value} {cC : Int} {w1 w2 : World} (h : QM g7 g8 tp v nv cB ty m gv cC w1) (hb : Below w1.heap.size w1 w2) : QM g7 g8 tp v nv cB ty m gv cC w2 := by
  obtain ⟨a0, a1, a2, a3, a4, a5, d0, d1, d2, d3, d4⟩ := h
  have l1 : g7 < w1.heap.size := World.block_lt_of_cell? w1 _ a0
  have l2 : g8 < w1.heap.size := World.block_lt_of_cell? w1 _ d0
  exact ⟨(hb.cell l1).trans a0, (hb.cell l1).trans a1, (hb.cell l1).trans a2, (hb.cell l1).trans a3, (hb.cell l1).trans a4, (hb.cell l1).trans a5, (hb.cell l2).trans d0, (hb.cell l2).trans d1, (hb.cell l2).trans d2, (hb.cell l2).trans d3, (hb.cell l2).trans d4⟩
theorem QM.of {W : World} {g7 g8 : Nat} {t u : TypeId} {tp : Option Addr} {v nv : Value} {cB : Int} {ty : ByteArray} {m : Int} {gv : Value} {cC : Int} (h1 : Blk W g7 t #[.pointer tp, v, nv, .int .i32 0, .int .u8 cB, .bool false]) (h2 : Blk W g8 u #[.int .u8 cC, .string ty, .int .i64 m, gv, .bool false]) : QM g7 g8 tp v nv cB ty m gv cC W :=
  ⟨h1.cell 0, h1.cell 1, h1.cell 2, h1.cell 3, h1.cell 4, h1.cell 5, h2.cell 0, h2.cell 1, h2.cell 2, h2.cell 3, h2.cell 4⟩
end Go.Proofs.Ytdonfahjcejhpaa.MG
