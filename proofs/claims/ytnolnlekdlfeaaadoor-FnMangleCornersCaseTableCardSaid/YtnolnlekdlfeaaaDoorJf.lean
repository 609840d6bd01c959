/- FnMangleCornerForgetsOnRefusal, walked: what memory holds. -/
import Derived.Test.YtnolnlekdlfeaaaDoorJe
namespace Go.Proofs.YtnolnlekdlfeaaaDoor.ZT
open Go.RowKit Go.Proofs.YtnolnlekdlfeaaaDoor.TB
set_option linter.unusedVariables false
theorem info54 : (Tryd.prog.info? 54).map (fun i => (i.zero, i.size, i.bytes)) = some (some (.agg #[.nilIface, .int .i32 0]), 2, 24) := by kernel_rfl
/-- After k longhands: places, rules, declarations, the tracker. -/
structure LW (w0 : World) (c l : Nat → Int) (gc gl gr gd gt : Nat) (k : Nat) (D : Nat → Nat) (S : Nat → Cn) (im : Bool) (W : World) : Prop where
  fc : Tab W gc 48 1 4 (fun i _ => .int .u8 (c i))
  fl : Tab W gl 59 1 5 (fun i _ => .int .i32 (l i))
  fr : Tab W gr 54 2 5 (fun i j => if i < k then #[Value.iface 25 (.pointer (some ⟨D i, 0, none⟩)), .int .i32 (l i)][j]! else #[Value.nilIface, .int .i32 0][j]!)
  fd : Tab W gd 60 1 5 (fun i _ => if i < k then .pointer (some ⟨D i, 0, none⟩) else .pointer none)
  ft : Tk W gt S im
  fb : Below w0.heap.size w0 W
  fh : w0.heap.size ≤ gc ∧ w0.heap.size ≤ gl ∧ w0.heap.size ≤ gr ∧ w0.heap.size ≤ gd ∧ w0.heap.size ≤ gt
  fn : gc ≠ gt ∧ gl ≠ gt ∧ gr ≠ gt ∧ gd ≠ gt ∧ gc ≠ gl ∧ gc ≠ gr ∧ gc ≠ gd ∧ gl ≠ gr ∧ gl ≠ gd ∧ gr ≠ gd
theorem LW.below {w0 W W' : World} {c l : Nat → Int} {gc gl gr gd gt k : Nat} {D : Nat → Nat} {S : Nat → Cn} {im : Bool} (h : LW w0 c l gc gl gr gd gt k D S im W) (hb : Below W.heap.size W W') : LW w0 c l gc gl gr gd gt k D S im W' :=
  ⟨h.fc.below hb h.fc.lt, h.fl.below hb h.fl.lt, h.fr.below hb h.fr.lt, h.fd.below hb h.fd.lt, h.ft.below hb, h.fb.trans (hb.mono h.fb.size), h.fh, h.fn⟩
/-- A new declaration, and its place among the declarations. -/
theorem LW.decl {w0 W : World} {c l : Nat → Int} {gc gl gr gd gt k : Nat} {D : Nat → Nat} {S : Nat → Cn} {im : Bool} (h : LW w0 c l gc gl gr gd gt k D S im W) (hk : k < 5) (o : Obj) :
    Tab ((W.setCell ⟨gd, k, none⟩ (.pointer (some ⟨W.heap.size, 0, none⟩))).alloc o) gc 48 1 4 (fun i _ => .int .u8 (c i)) ∧ Tab ((W.setCell ⟨gd, k, none⟩ (.pointer (some ⟨W.heap.size, 0, none⟩))).alloc o) gl 59 1 5 (fun i _ => .int .i32 (l i)) ∧
    Tab ((W.setCell ⟨gd, k, none⟩ (.pointer (some ⟨W.heap.size, 0, none⟩))).alloc o) gr 54 2 5 (fun i j => if i < k then #[Value.iface 25 (.pointer (some ⟨D i, 0, none⟩)), .int .i32 (l i)][j]! else #[Value.nilIface, .int .i32 0][j]!) ∧
    Tab ((W.setCell ⟨gd, k, none⟩ (.pointer (some ⟨W.heap.size, 0, none⟩))).alloc o) gd 60 1 5 (fun i _ => if i < k + 1 then .pointer (some ⟨if i = k then W.heap.size else D i, 0, none⟩) else .pointer none) ∧
    Tk ((W.setCell ⟨gd, k, none⟩ (.pointer (some ⟨W.heap.size, 0, none⟩))).alloc o) gt S im ∧ Below w0.heap.size w0 ((W.setCell ⟨gd, k, none⟩ (.pointer (some ⟨W.heap.size, 0, none⟩))).alloc o) := by
  obtain ⟨h1, h2, h3, h4, h5, h6, h7, h8⟩ := h
  refine ⟨(h1.far (p := ⟨gd, k, none⟩) (by show gc ≠ gd; omega) _).alloc o, (h2.far (p := ⟨gd, k, none⟩) (by show gl ≠ gd; omega) _).alloc o, (h3.far (p := ⟨gd, k, none⟩) (by show gr ≠ gd; omega) _).alloc o, Tab.alloc ?_ o, Tk.alloc (Tab.far h5 (p := ⟨gd, k, none⟩) (by show gt ≠ gd; omega) _) o, (h6.setCell (by show w0.heap.size ≤ gd; omega) _).alloc (by simp; exact h6.size) _⟩
  have h9 := h4.set (i := k) (j := 0) hk (by omega) (.pointer (some ⟨W.heap.size, 0, none⟩))
  rw [Nat.mul_one, Nat.add_zero] at h9
  refine h9.ext fun i j hi hj => ?_
  show (if i = k ∧ j = 0 then Value.pointer (some ⟨W.heap.size, 0, none⟩) else if i < k then .pointer (some ⟨D i, 0, none⟩) else .pointer none) = if i < k + 1 then .pointer (some ⟨if i = k then W.heap.size else D i, 0, none⟩) else .pointer none
  by_cases e : i = k
  · subst e
    rw [if_pos (⟨rfl, by omega⟩ : i = i ∧ j = 0), if_pos (by omega), if_pos rfl]
  · rw [if_neg (fun h => e h.1), if_neg e]
    by_cases e2 : i < k
    · rw [if_pos e2, if_pos (by omega)]
    · rw [if_neg e2, if_neg (by omega)]
theorem LW.put {w0 W : World} {c l : Nat → Int} {gc gl gr gd gt k : Nat} {D : Nat → Nat} {S : Nat → Cn} {im : Bool} (h : LW w0 c l gc gl gr gd gt k D S im W) (hk : k < 5) (d : Nat) :
    Tab (W.setCell ⟨gd, k, none⟩ (.pointer (some ⟨d, 0, none⟩))) gc 48 1 4 (fun i _ => .int .u8 (c i)) ∧ Tab (W.setCell ⟨gd, k, none⟩ (.pointer (some ⟨d, 0, none⟩))) gl 59 1 5 (fun i _ => .int .i32 (l i)) ∧
    Tab (W.setCell ⟨gd, k, none⟩ (.pointer (some ⟨d, 0, none⟩))) gr 54 2 5 (fun i j => if i < k then #[Value.iface 25 (.pointer (some ⟨D i, 0, none⟩)), .int .i32 (l i)][j]! else #[Value.nilIface, .int .i32 0][j]!) ∧
    Tab (W.setCell ⟨gd, k, none⟩ (.pointer (some ⟨d, 0, none⟩))) gd 60 1 5 (fun i _ => if i < k + 1 then .pointer (some ⟨if i = k then d else D i, 0, none⟩) else .pointer none) ∧
    Tk (W.setCell ⟨gd, k, none⟩ (.pointer (some ⟨d, 0, none⟩))) gt S im ∧ Below w0.heap.size w0 (W.setCell ⟨gd, k, none⟩ (.pointer (some ⟨d, 0, none⟩))) := by
  obtain ⟨h1, h2, h3, h4, h5, h6, h7, h8⟩ := h
  refine ⟨h1.far (p := ⟨gd, k, none⟩) (by show gc ≠ gd; omega) _, h2.far (p := ⟨gd, k, none⟩) (by show gl ≠ gd; omega) _, h3.far (p := ⟨gd, k, none⟩) (by show gr ≠ gd; omega) _, ?_, Tab.far h5 (p := ⟨gd, k, none⟩) (by show gt ≠ gd; omega) _, h6.setCell (by show w0.heap.size ≤ gd; omega) _⟩
  have h9 := h4.set (i := k) (j := 0) hk (by omega) (.pointer (some ⟨d, 0, none⟩))
  rw [Nat.mul_one, Nat.add_zero] at h9
  refine h9.ext fun i j hi hj => ?_
  show (if i = k ∧ j = 0 then Value.pointer (some ⟨d, 0, none⟩) else if i < k then .pointer (some ⟨D i, 0, none⟩) else .pointer none) = if i < k + 1 then .pointer (some ⟨if i = k then d else D i, 0, none⟩) else .pointer none
  by_cases e : i = k
  · subst e
    rw [if_pos (⟨rfl, by omega⟩ : i = i ∧ j = 0), if_pos (by omega), if_pos rfl]
  · rw [if_neg (fun h => e h.1), if_neg e]
    by_cases e2 : i < k
    · rw [if_pos e2, if_pos (by omega)]
    · rw [if_neg e2, if_neg (by omega)]
/-- The rule of a new declaration. -/
theorem LW.rule {w0 W : World} {c l : Nat → Int} {gc gl gr gd gt k d : Nat} {D : Nat → Nat} {S : Nat → Cn} {im : Bool} (hk : k < 5)
    (fc : Tab W gc 48 1 4 (fun i _ => .int .u8 (c i))) (fl : Tab W gl 59 1 5 (fun i _ => .int .i32 (l i)))
    (fr : Tab W gr 54 2 5 (fun i j => if i < k then #[Value.iface 25 (.pointer (some ⟨D i, 0, none⟩)), .int .i32 (l i)][j]! else #[Value.nilIface, .int .i32 0][j]!))
    (fd : Tab W gd 60 1 5 (fun i _ => if i < k + 1 then .pointer (some ⟨if i = k then d else D i, 0, none⟩) else .pointer none))
    (ft : Tk W gt S im) (fb : Below w0.heap.size w0 W)
    (fh : w0.heap.size ≤ gc ∧ w0.heap.size ≤ gl ∧ w0.heap.size ≤ gr ∧ w0.heap.size ≤ gd ∧ w0.heap.size ≤ gt)
    (fn : gc ≠ gt ∧ gl ≠ gt ∧ gr ≠ gt ∧ gd ≠ gt ∧ gc ≠ gl ∧ gc ≠ gr ∧ gc ≠ gd ∧ gl ≠ gr ∧ gl ≠ gd ∧ gr ≠ gd) :
    LW w0 c l gc gl gr gd gt (k + 1) (fun i => if i = k then d else D i) S im ((W.setCell ⟨gr, k * 2, none⟩ (.iface 25 (.pointer (some ⟨d, 0, none⟩)))).setCell ⟨gr, k * 2 + 1, none⟩ (.int .i32 (l k))) := by
  have h1 := fr.set (i := k) (j := 0) hk (by omega) (.iface 25 (.pointer (some ⟨d, 0, none⟩)))
  have h2 := h1.set (i := k) (j := 1) hk (by omega) (.int .i32 (l k))
  rw [Nat.add_zero] at h2
  refine ⟨(fc.far (p := ⟨gr, k * 2, none⟩) (by show gc ≠ gr; omega) _).far (p := ⟨gr, k * 2 + 1, none⟩) (by show gc ≠ gr; omega) _, (fl.far (p := ⟨gr, k * 2, none⟩) (by show gl ≠ gr; omega) _).far (p := ⟨gr, k * 2 + 1, none⟩) (by show gl ≠ gr; omega) _, h2.ext fun i j hi hj => ?_, (fd.far (p := ⟨gr, k * 2, none⟩) (by show gd ≠ gr; omega) _).far (p := ⟨gr, k * 2 + 1, none⟩) (by show gd ≠ gr; omega) _, Tab.far (Tab.far ft (p := ⟨gr, k * 2, none⟩) (by show gt ≠ gr; omega) _) (p := ⟨gr, k * 2 + 1, none⟩) (by show gt ≠ gr; omega) _, (fb.setCell (by show w0.heap.size ≤ gr; omega) _).setCell (by show w0.heap.size ≤ gr; omega) _, fh, fn⟩
  show (if i = k ∧ j = 1 then Value.int .i32 (l k) else if i = k ∧ j = 0 then .iface 25 (.pointer (some ⟨d, 0, none⟩)) else if i < k then #[Value.iface 25 (.pointer (some ⟨D i, 0, none⟩)), .int .i32 (l i)][j]! else #[Value.nilIface, .int .i32 0][j]!) = if i < k + 1 then #[Value.iface 25 (.pointer (some ⟨if i = k then d else D i, 0, none⟩)), .int .i32 (l i)][j]! else #[Value.nilIface, .int .i32 0][j]!
  by_cases e : i = k
  · subst e
    rcases (by omega : j = 0 ∨ j = 1) with rfl | rfl <;> simp
  · rw [if_neg (fun h => e h.1), if_neg (fun h => e h.1)]
    by_cases e2 : i < k
    · rw [if_pos e2, if_pos (by omega), if_neg e]
    · rw [if_neg e2, if_neg (by omega)]
/-- Behind a call that changes the tracker alone. -/
theorem LW.kept {w0 W W' : World} {c l : Nat → Int} {gc gl gr gd gt k : Nat} {D : Nat → Nat} {S S' : Nat → Cn} {im im' : Bool} (h : LW w0 c l gc gl gr gd gt k D S im W) (hk : Kept W.heap.size gt W W') (ht : Tk W' gt S' im') : LW w0 c l gc gl gr gd gt k D S' im' W' :=
  ⟨hk.tab h.fc h.fc.lt h.fn.1, hk.tab h.fl h.fl.lt h.fn.2.1, hk.tab h.fr h.fr.lt h.fn.2.2.1, hk.tab h.fd h.fd.lt h.fn.2.2.2.1, ht, h.fb.trans (hk.below h.fb.size h.fh.2.2.2.2), h.fh, h.fn⟩
theorem LW.keeps {w0 W : World} {c l : Nat → Int} {gc gl gr gd gt k : Nat} {D : Nat → Nat} {S : Nat → Cn} {im : Bool} (h : LW w0 c l gc gl gr gd gt k D S im W) {j : Nat} (hj : j < k) (hk : k ≤ 5) : KJ gr gd gl j (D j) (l j) W W := by
  refine ⟨Below.refl _ _, h.fr.lt, h.fd.lt, h.fl.lt, ?_, ?_, ?_, ?_⟩
  · have := h.fr.cell (i := j) (j := 0) (by omega) (by omega)
    rw [if_pos hj] at this
    simpa using this
  · have := h.fr.cell (i := j) (j := 1) (by omega) (by omega)
    rw [if_pos hj] at this
    simpa using this
  · have := h.fd.cell (i := j) (j := 0) (by omega) (by omega)
    rw [if_pos hj] at this
    simpa using this
  · have := h.fl.cell (i := j) (j := 0) (by omega) (by omega)
    simpa using this
theorem five {i : Nat} (h : i < 5) : i = 0 ∨ i = 1 ∨ i = 2 ∨ i = 3 ∨ i = 4 := by omega
/-- What is known of the tracker after k longhands, in mode m. -/
def ST (c : Nat → Int) (imp : Bool) (m : Int) (k : Nat) (S : Nat → Cn) (im : Bool) : Prop :=
  (k ≤ 3 → (∀ j, j < 4 → k ≤ j → (S j).k = 0) ∧ (k = 0 → S = fun _ => C0) ∧ (1 ≤ k → im = imp)) ∧
  (k = 4 → (∀ j, j < 3 → (S j).k = 0) ∧ (m = 0 → (S 3).k = kdT (c 3 % 5) ∧ (S 3).t = txT (c 3 % 5) ∧ im = !imp) ∧ (m ≠ 0 → (S 3).k = 0 ∧ im = imp))
/-- Ahead of the tracker. -/
def L0 (w : World) (c l : Nat → Int) (W : World) : Prop := Tab W w.heap.size 48 1 4 (fun i _ => .int .u8 (c i)) ∧ Tab W (w.heap.size + 1) 59 1 5 (fun i _ => .int .i32 (l i)) ∧ Tab W (w.heap.size + 1 + 1) 54 2 5 (fun i j => #[Value.nilIface, .int .i32 0][j]!) ∧
  Tab W (w.heap.size + 1 + 1 + 1) 60 1 5 (fun _ _ => .pointer none) ∧ Below w.heap.size w W
theorem L0.new (w : World) (c l : Nat → Int) : L0 w c l ((((w.alloc (.cells #[.int .u8 (c 0), .int .u8 (c 1), .int .u8 (c 2), .int .u8 (c 3)] 48)).alloc (.cells #[.int .i32 (l 0), .int .i32 (l 1), .int .i32 (l 2), .int .i32 (l 3), .int .i32 (l 4)] 59)).alloc (.cells (madeCells #[.nilIface, .int .i32 0] 10) 54)).alloc (.cells #[.pointer none, .pointer none, .pointer none, .pointer none, .pointer none] 60)) := by
  refine ⟨?_, ?_, ?_, ?_, ?_⟩
  · refine Tab.alloc (Tab.alloc (Tab.alloc ⟨_, Blk.new w 48 _, rfl, fun i j hi hj => ?_⟩ _) _) _
    rcases (by omega : i = 0 ∨ i = 1 ∨ i = 2 ∨ i = 3) with rfl | rfl | rfl | rfl <;> (obtain rfl : j = 0 := by omega) <;> rfl
  · refine Tab.alloc (Tab.alloc ⟨_, by simpa using Blk.new (w.alloc (.cells #[.int .u8 (c 0), .int .u8 (c 1), .int .u8 (c 2), .int .u8 (c 3)] 48)) 59 #[.int .i32 (l 0), .int .i32 (l 1), .int .i32 (l 2), .int .i32 (l 3), .int .i32 (l 4)], rfl, fun i j hi hj => ?_⟩ _) _
    rcases five hi with rfl | rfl | rfl | rfl | rfl <;> (obtain rfl : j = 0 := by omega) <;> rfl
  · refine Tab.alloc ?_ _
    have h := Tab.new ((w.alloc (.cells #[.int .u8 (c 0), .int .u8 (c 1), .int .u8 (c 2), .int .u8 (c 3)] 48)).alloc (.cells #[.int .i32 (l 0), .int .i32 (l 1), .int .i32 (l 2), .int .i32 (l 3), .int .i32 (l 4)] 59)) 54 #[.nilIface, .int .i32 0] 5 2 rfl (fun i j => #[Value.nilIface, .int .i32 0][j]!) (fun _ _ _ _ => rfl)
    simpa using h
  · refine ⟨_, by simpa using Blk.new (((w.alloc (.cells #[.int .u8 (c 0), .int .u8 (c 1), .int .u8 (c 2), .int .u8 (c 3)] 48)).alloc (.cells #[.int .i32 (l 0), .int .i32 (l 1), .int .i32 (l 2), .int .i32 (l 3), .int .i32 (l 4)] 59)).alloc (.cells (madeCells #[.nilIface, .int .i32 0] 10) 54)) 60 #[.pointer none, .pointer none, .pointer none, .pointer none, .pointer none], rfl, fun i j hi hj => ?_⟩
    rcases five hi with rfl | rfl | rfl | rfl | rfl <;> (obtain rfl : j = 0 := by omega) <;> rfl
  · exact ((((Below.refl _ _).alloc (Nat.le_refl _) _).alloc (by simp) _).alloc (by simp; omega) _).alloc (by simp; omega) _
theorem ST.le {c : Nat → Int} {imp : Bool} {m : Int} {k : Nat} {S : Nat → Cn} {im : Bool} (h : ST c imp m k S im) (hk : k ≤ 3) {j : Nat} (hj : j < 4) (hkj : k ≤ j) (ib : Bool) : (rs im ib S j).k = 0 := by
  unfold rs
  split
  · exact (h.1 hk).1 j hj hkj
  · rfl
/-- A good longhand. -/
theorem ST.good {c : Nat → Int} {imp : Bool} {m ck : Int} {k : Nat} {S : Nat → Cn} {im ib : Bool} (h : ST c imp m k S im) (hk : k < 4) (hc : c k % 5 = ck) (hi : (k < 3 ∧ ib = imp) ∨ (k = 3 ∧ m = 0 ∧ ib = !imp)) (r : Int) :
    (∃ j, j < 4 ∧ (upS (rs im ib S) k ⟨txT ck, kdT ck, txT ck, kdT ck, ⟨#[]⟩, 0, r, true⟩ j).k = 0) ∧ ST c imp m (k + 1) (upS (rs im ib S) k ⟨txT ck, kdT ck, txT ck, kdT ck, ⟨#[]⟩, 0, r, true⟩) ib := by
  have hz : ∀ j, j < 4 → k < j → (upS (rs im ib S) k ⟨txT ck, kdT ck, txT ck, kdT ck, ⟨#[]⟩, 0, r, true⟩ j).k = 0 := by
    intro j hj hkj
    unfold upS
    rw [if_neg (by omega)]
    exact h.le (by omega) hj (by omega) ib
  rcases hi with ⟨h3, rfl⟩ | ⟨rfl, h0, rfl⟩
  · exact ⟨⟨3, by omega, hz 3 (by omega) h3⟩, fun _ => ⟨fun j hj hkj => hz j hj (by omega), fun e => absurd e (by omega), fun _ => rfl⟩, fun e => absurd e (by omega)⟩
  · have him : im = imp := (h.1 (by omega)).2.2 (by omega)
    subst him
    have hr : rs im (!im) S = fun _ => C0 := by
      unfold rs
      rw [if_neg (by cases im <;> simp)]
    rw [hr]
    refine ⟨⟨0, by omega, rfl⟩, fun e => absurd e (by omega), fun _ => ⟨fun j hj => ?_, fun _ => ?_, fun e => absurd h0 e⟩⟩
    · unfold upS
      rw [if_neg (by omega)]
      rfl
    · unfold upS
      rw [if_pos rfl, hc]
      exact ⟨rfl, rfl, rfl⟩
theorem ST.refused {c : Nat → Int} {imp : Bool} {m : Int} {S : Nat → Cn} {im : Bool} (h : ST c imp m 3 S im) (hm : m ≠ 0) : im = imp ∧ ST c imp m 4 (fun _ => C0) imp :=
  ⟨(h.1 (by omega)).2.2 (by omega), fun e => absurd e (by omega), fun _ => ⟨fun _ _ => rfl, fun e => absurd e hm, fun _ => ⟨rfl, rfl⟩⟩⟩
/-- The fifth longhand. -/
theorem ST.fifth {c : Nat → Int} {imp : Bool} {m ck : Int} {S : Nat → Cn} {im : Bool} (h : ST c imp m 4 S im) (r : Int) :
    (rs im imp S 3).k = 0 ∧ (∃ j, j < 4 ∧ (upS (rs im imp S) 3 ⟨txT ck, kdT ck, txT ck, kdT ck, ⟨#[]⟩, 0, r, true⟩ j).k = 0) := by
  obtain ⟨h1, h2, h3⟩ := h.2 rfl
  unfold rs
  by_cases hm : m = 0
  · obtain ⟨-, -, rfl⟩ := h2 hm
    rw [if_neg (by cases imp <;> simp)]
    exact ⟨rfl, 0, by omega, by unfold upS; rw [if_neg (by omega)]; rfl⟩
  · obtain ⟨h4, rfl⟩ := h3 hm
    rw [if_pos rfl]
    exact ⟨h4, 0, by omega, by unfold upS; rw [if_neg (by omega)]; exact h1 0 (by omega)⟩
theorem kd_cases {ck : Int} : kdT ck = 34 ∨ (kdT ck = 30 ∧ txT ck = ⟨#[48]⟩) := by
  unfold kdT txT
  by_cases h : ck = 3
  · subst h; exact .inr ⟨rfl, rfl⟩
  · rw [if_neg h]; exact .inl rfl
/-- The value of the longhand: good or refused. -/
def VAL (imp ib : Bool) (m ck : Int) (k gt : Nat) (V : Option Addr) (nv cv : Nat) (W : World) : Prop :=
  (((k < 3 ∧ ib = imp) ∨ (k = 3 ∧ m = 0 ∧ ib = !imp)) ∧ ∃ gv, V = some ⟨gv, 0, none⟩ ∧ nv = 1 ∧ 1 ≤ cv ∧ gt < gv ∧ Blk W gv 47 #[.pointer none, .string (txT ck), .int .i32 0, .int .u32 0, .int .u16 0, .int .u8 (kdT ck), .int .u8 0]) ∨
  (k = 3 ∧ m ≠ 0 ∧ ib = imp ∧ (nv = 0 ∨ nv = 3 ∨ (nv = 1 ∧ 1 ≤ cv ∧ ∃ gv, V = some ⟨gv, 0, none⟩ ∧ gt < gv ∧ ∃ cs : Array Value, Blk W gv 47 cs ∧ cs[5]? = some (.int .u8 29))))
theorem VAL.far {imp ib : Bool} {m ck : Int} {k gt : Nat} {V : Option Addr} {nv cv : Nat} {W : World} (h : VAL imp ib m ck k gt V nv cv W) {p : Addr} (hp : p.block ≤ gt) (v : Value) : VAL imp ib m ck k gt V nv cv (W.setCell p v) := by
  rcases h with ⟨h1, gv, h2, h3, h4, h5, h6⟩ | ⟨h1, h2, h3, h | h | ⟨h4, h5, gv, h6, h7, cs, h8, h9⟩⟩
  · exact .inl ⟨h1, gv, h2, h3, h4, h5, h6.far (by omega) _⟩
  · exact .inr ⟨h1, h2, h3, .inl h⟩
  · exact .inr ⟨h1, h2, h3, .inr (.inl h)⟩
  · exact .inr ⟨h1, h2, h3, .inr (.inr ⟨h4, h5, gv, h6, h7, cs, h8.far (by omega) _, h9⟩)⟩
theorem VAL.alloc {imp ib : Bool} {m ck : Int} {k gt : Nat} {V : Option Addr} {nv cv : Nat} {W : World} (h : VAL imp ib m ck k gt V nv cv W) (o : Obj) : VAL imp ib m ck k gt V nv cv (W.alloc o) := by
  rcases h with ⟨h1, gv, h2, h3, h4, h5, h6⟩ | ⟨h1, h2, h3, h | h | ⟨h4, h5, gv, h6, h7, cs, h8, h9⟩⟩
  · exact .inl ⟨h1, gv, h2, h3, h4, h5, h6.alloc _⟩
  · exact .inr ⟨h1, h2, h3, .inl h⟩
  · exact .inr ⟨h1, h2, h3, .inr (.inl h)⟩
  · exact .inr ⟨h1, h2, h3, .inr (.inr ⟨h4, h5, gv, h6, h7, cs, h8.alloc _, h9⟩)⟩
theorem VAL.below {imp ib : Bool} {m ck : Int} {k gt : Nat} {V : Option Addr} {nv cv : Nat} {W W' : World} (h : VAL imp ib m ck k gt V nv cv W) (hb : Below W.heap.size W W') : VAL imp ib m ck k gt V nv cv W' := by
  rcases h with ⟨h1, gv, h2, h3, h4, h5, h6⟩ | ⟨h1, h2, h3, h | h | ⟨h4, h5, gv, h6, h7, cs, h8, h9⟩⟩
  · exact .inl ⟨h1, gv, h2, h3, h4, h5, h6.below hb h6.lt⟩
  · exact .inr ⟨h1, h2, h3, .inl h⟩
  · exact .inr ⟨h1, h2, h3, .inr (.inl h)⟩
  · exact .inr ⟨h1, h2, h3, .inr (.inr ⟨h4, h5, gv, h6, h7, cs, h8.below hb h8.lt, h9⟩)⟩
theorem step17 {w0 W : World} {c l : Nat → Int} {gc gl gr gd gt k d n cp nv cv : Nat} {A V : Option Addr} {D : Nat → Nat} {S : Nat → Cn} {im imp ib mw : Bool} {m ck : Int} (hk : k < 4) (hL : LW w0 c l gc gl gr gd gt (k + 1) D S im W) (hS : ST c imp m k S im) (hck : c k % 5 = ck)
    (hd : Blk W d 40 #[.string ⟨#[]⟩, .slice V nv cv, .int .i32 0, .int .i32 0, .int .u16 0, .bool ib]) (hdg : d ≠ gt) (hv : VAL imp ib m ck k gt V nv cv W) (hn : n = k + 1) :
    Calls Tryd.prog 17 #[.pointer (some ⟨gt, 0, none⟩), .slice A n cp, .pointer (some ⟨d, 0, none⟩), .bool mw, .int .i64 k] W fun e w' => e = .returned (.tuple #[]) ∧ ∃ S' im', LW w0 c l gc gl gr gd gt (k + 1) D S' im' w' ∧ ST c imp m (k + 1) S' im' := by
  subst hn
  rcases hv with ⟨h1, gv, rfl, rfl, h4, h5, h6⟩ | ⟨rfl, h2, rfl, h3⟩
  · obtain ⟨g1, g2⟩ := hS.good hk hck h1 ((((k + 1 : Nat) : Int)) - 1)
    exact mangle17 ((mangle22 gt d gv k (k + 1) cp cv A mw S im ib (txT ck) (kdT ck) W hk ⟨hL.ft, hd, h6, Kept.refl _ _ _, Nat.le_refl _⟩ hdg (by omega) kd_cases (by omega) (by omega) h4 (hS.le (by omega) hk (Nat.le_refl _) ib) g1).mono fun e w' h => ⟨h.1, _, _, hL.kept h.2.2 h.2.1, g2⟩)
  · obtain ⟨rfl, g2⟩ := hS.refused h2
    refine mangle17 ((refuse22 gt d 3 4 cp nv cv A V mw S im W hL.ft hd hdg ?_).mono fun e w' h => ⟨h.1, _, _, hL.kept h.2.2 h.2.1, g2⟩)
    rcases h3 with h | h | ⟨h4, h5, gv, h6, h7, cs, h8, h9⟩
    · exact .inl h
    · exact .inr (.inl h)
    · exact .inr (.inr ⟨h4, h5, gv, h6, (h8.cell 5).trans h9⟩)
/-- The fifth longhand: nothing is merged. -/
theorem fifth17 {w0 W : World} {c l : Nat → Int} {gc gl gr gd gt d n cp gv cv : Nat} {A : Option Addr} {D : Nat → Nat} {S : Nat → Cn} {im imp mw : Bool} {m ck : Int} (hL : LW w0 c l gc gl gr gd gt 5 D S im W) (hS : ST c imp m 4 S im)
    (hd : Blk W d 40 #[.string ⟨#[]⟩, .slice (some ⟨gv, 0, none⟩) 1 cv, .int .i32 0, .int .i32 0, .int .u16 0, .bool imp]) (hdg : d ≠ gt) (hvg : gt < gv) (hc1 : 1 ≤ cv) (hv : Blk W gv 47 #[.pointer none, .string (txT ck), .int .i32 0, .int .u32 0, .int .u16 0, .int .u8 (kdT ck), .int .u8 0]) (hn : n = 5) :
    Calls Tryd.prog 17 #[.pointer (some ⟨gt, 0, none⟩), .slice A n cp, .pointer (some ⟨d, 0, none⟩), .bool mw, .int .i64 3] W fun e w' => e = .returned (.tuple #[]) ∧ ∃ S' im', LW w0 c l gc gl gr gd gt 5 D S' im' w' := by
  subst hn
  obtain ⟨g1, g2⟩ := hS.fifth (ck := ck) ((((5 : Nat) : Int)) - 1)
  exact mangle17 ((mangle22 gt d gv 3 5 cp cv A mw S im imp (txT ck) (kdT ck) W (by omega) ⟨hL.ft, hd, hv, Kept.refl _ _ _, Nat.le_refl _⟩ hdg (by omega) kd_cases (by omega) (by omega) hc1 g1 g2).mono fun e w' h => ⟨h.1, _, _, hL.kept h.2.2 h.2.1⟩)
theorem first18z (g k : Nat) (S : Nat → Cn) (im : Bool) (w : World) (hk : k < 4) (ht : Tk w g S im) (hz : (S k).k = 0) : Calls Tryd.prog 18 #[.pointer (some ⟨g, 0, none⟩), .int .i64 k] w fun e w' =>
    e = .returned (.agg #[.pointer none, .string (S k).t, .int .i32 0, .int .u32 0, .int .u16 0, .int .u8 0, .int .u8 0]) ∧ Below w.heap.size w w' := by
  have h := first18 g k S im w hk ht
  rw [hz] at h
  exact h
theorem first18t (g : Nat) (S : Nat → Cn) (im : Bool) (w : World) (ht : Tk w g S im) (T : ByteArray) (K : Int) (h1 : (S 3).t = T) (h2 : (S 3).k = K) : Calls Tryd.prog 18 #[.pointer (some ⟨g, 0, none⟩), .int .i64 3] w fun e w' =>
    e = .returned (.agg #[.pointer none, .string T, .int .i32 0, .int .u32 0, .int .u16 0, .int .u8 K, .int .u8 0]) ∧ Below w.heap.size w w' := by
  have h := first18 g 3 S im w (by omega) ht
  rw [h1, h2] at h
  exact h
/-- What the law looks at behind the fourth longhand. -/
theorem ST.four {c : Nat → Int} {imp : Bool} {m : Int} {S : Nat → Cn} {im : Bool} (h : ST c imp m 4 S im) : (∀ j, j < 3 → (S j).k = 0) ∧ (m = 0 → (S 3).t = txT (c 3 % 5) ∧ (S 3).k = kdT (c 3 % 5)) ∧ (m ≠ 0 → (S 3).k = 0) :=
  ⟨(h.2 rfl).1, fun e => ⟨((h.2 rfl).2.1 e).2.1, ((h.2 rfl).2.1 e).1⟩, fun e => ((h.2 rfl).2.2 e).1⟩
theorem fld5 (a b c d e f g : Value) (W : World) : (Instr.field 47 (.agg #[a, b, c, d, e, f, g]) 5).run Tryd.prog W = .ok f W := by kernel_rfl
end Go.Proofs.YtnolnlekdlfeaaaDoor.ZT
