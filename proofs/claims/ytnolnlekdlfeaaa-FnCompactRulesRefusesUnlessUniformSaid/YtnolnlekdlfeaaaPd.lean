/- FnCompactRulesRefusesUnlessUniform: the rules; the look at the declaration. -/
import Derived.Test.YtnolnlekdlfeaaaPc
namespace Go.Proofs.Ytnolnlekdlfeaaa.ZT
open Go.RowKit Go.Proofs.Ytnolnlekdlfeaaa.TB
set_option linter.unusedVariables false
def dF (D : Nat → Nat) (k : Nat) : Nat → Nat → Value := fun i _ => if i < k then .pointer (some ⟨D i, 0, none⟩) else .pointer none
def rF (D : Nat → Nat) (z : Nat → Int) (k : Nat) : Nat → Nat → Value := fun i j => if i < k then #[Value.iface 57 (.pointer (some ⟨D i, 0, none⟩)), .int .i32 (z i)][j]! else #[Value.nilIface, .int .i32 0][j]!
/-- A declaration lies there. -/
def Cel (W : World) (d : Nat) : Prop := ∃ cs : Array Value, Blk W d 67 cs
theorem Cel.setCell {W : World} {d : Nat} (h : Cel W d) (g o : Nat) (v : Value) : Cel (W.setCell ⟨g, o, none⟩ v) d := by
  obtain ⟨cs, h⟩ := h
  by_cases e : d = g
  · subst e
    exact ⟨_, h.set_ o v⟩
  · exact ⟨_, h.far (p := ⟨g, o, none⟩) e v⟩
theorem Cel.below {W W' : World} {d : Nat} (h : Cel W d) (hb : Below W.heap.size W W') : Cel W' d := by
  obtain ⟨cs, h⟩ := h
  exact ⟨cs, h.below hb h.lt⟩
theorem Cel.setCells {W : World} {d : Nat} (vs : List Value) (g : Nat) : ∀ (o : Nat), Cel W d → Cel (W.setCells g o vs) d := by
  induction vs generalizing W with
  | nil => intro o h; exact h
  | cons v r ih => intro o h; exact ih (o + 1) (h.setCell g o v)
/-- The rules as far as they are laid. -/
structure LU (w0 : World) (z : Nat → Int) (gl gd gr n k : Nat) (D : Nat → Nat) (W : World) : Prop where
  l : Tab W gl 21 1 n (fun i _ => .int .i32 (z i))
  d : Tab W gd 57 1 n (dF D k)
  r : Tab W gr 62 2 n (rF D z k)
  b : Below w0.heap.size w0 W
  h : w0.heap.size ≤ gd ∧ w0.heap.size ≤ gr
  n : gl ≠ gd ∧ gl ≠ gr ∧ gd ≠ gr
  a : ∀ i, i < k → Cel W (D i)
theorem LU.below {w0 W W' : World} {z : Nat → Int} {gl gd gr n k : Nat} {D : Nat → Nat} (h : LU w0 z gl gd gr n k D W) (hb : Below W.heap.size W W') : LU w0 z gl gd gr n k D W' :=
  ⟨h.l.below hb h.l.lt, h.d.below hb h.d.lt, h.r.below hb h.r.lt, h.b.trans (hb.mono h.b.size), h.h, h.n, fun i hi => (h.a i hi).below hb⟩
theorem dF_step {W : World} {gd n k d : Nat} {D : Nat → Nat} (h : Tab W gd 57 1 n (dF D k)) (hk : k < n) : Tab (W.setCell ⟨gd, k, none⟩ (.pointer (some ⟨d, 0, none⟩))) gd 57 1 n (dF (fun i => if i = k then d else D i) (k + 1)) := by
  have h9 := h.set (i := k) (j := 0) hk (by omega) (.pointer (some ⟨d, 0, none⟩))
  rw [Nat.mul_one, Nat.add_zero] at h9
  refine h9.ext fun i j hi hj => ?_
  show (if i = k ∧ j = 0 then Value.pointer (some ⟨d, 0, none⟩) else if i < k then .pointer (some ⟨D i, 0, none⟩) else .pointer none) = if i < k + 1 then .pointer (some ⟨if i = k then d else D i, 0, none⟩) else .pointer none
  by_cases e : i = k
  · subst e
    rw [if_pos (⟨rfl, by omega⟩ : i = i ∧ j = 0), if_pos (by omega), if_pos rfl]
  · rw [if_neg (fun h => e h.1), if_neg e]
    by_cases e2 : i < k
    · rw [if_pos e2, if_pos (by omega)]
    · rw [if_neg e2, if_neg (by omega)]
theorem rF_step {W : World} {gr n k d : Nat} {D : Nat → Nat} {z : Nat → Int} (h : Tab W gr 62 2 n (rF D z k)) (hk : k < n) :
    Tab ((W.setCell ⟨gr, k * 2, none⟩ (.iface 57 (.pointer (some ⟨d, 0, none⟩)))).setCell ⟨gr, k * 2 + 1, none⟩ (.int .i32 (z k))) gr 62 2 n (rF (fun i => if i = k then d else D i) z (k + 1)) := by
  have h1 := h.set (i := k) (j := 0) hk (by omega) (.iface 57 (.pointer (some ⟨d, 0, none⟩)))
  have h2 := h1.set (i := k) (j := 1) hk (by omega) (.int .i32 (z k))
  rw [Nat.add_zero] at h2
  refine h2.ext fun i j hi hj => ?_
  show (if i = k ∧ j = 1 then Value.int .i32 (z k) else if i = k ∧ j = 0 then .iface 57 (.pointer (some ⟨d, 0, none⟩)) else if i < k then #[Value.iface 57 (.pointer (some ⟨D i, 0, none⟩)), .int .i32 (z i)][j]! else #[Value.nilIface, .int .i32 0][j]!) = if i < k + 1 then #[Value.iface 57 (.pointer (some ⟨if i = k then d else D i, 0, none⟩)), .int .i32 (z i)][j]! else #[Value.nilIface, .int .i32 0][j]!
  by_cases e : i = k
  · subst e
    rcases (by omega : j = 0 ∨ j = 1) with rfl | rfl <;> simp
  · rw [if_neg (fun h => e h.1), if_neg (fun h => e h.1)]
    by_cases e2 : i < k
    · rw [if_pos e2, if_pos (by omega), if_neg e]
    · rw [if_neg e2, if_neg (by omega)]
theorem info57 : (Try.prog.info? 57).map (fun i => (i.zero, i.size, i.bytes)) = some (some (.pointer none), 1, 8) := by kernel_rfl
theorem info62 : (Try.prog.info? 62).map (fun i => (i.zero, i.size, i.bytes)) = some (some (.agg #[.nilIface, .int .i32 0]), 2, 24) := by kernel_rfl
theorem LU.zero (w : World) (z : Nat → Int) (gl n : Nat) (h : Tab w gl 21 1 n (fun i _ => .int .i32 (z i))) :
    LU w z gl w.heap.size (w.heap.size + 1) n 0 (fun _ => 0) ((w.alloc (.cells (madeCells #[.pointer none] n) 57)).alloc (.cells (madeCells #[.nilIface, .int .i32 0] (n * 2)) 62)) := by
  have hl := h.lt
  refine ⟨(h.alloc _).alloc _, Tab.alloc ?_ _, ?_, ((Below.refl _ _).alloc (Nat.le_refl _) _).alloc (by simp) _, ⟨Nat.le_refl _, by omega⟩, ⟨by omega, by omega, by omega⟩, fun i hi => absurd hi (by omega)⟩
  · have := Tab.new w 57 #[.pointer none] n 1 rfl (dF (fun _ => 0) 0) (fun i j _ hj => by (have h0 : j = 0 := by omega); subst h0; unfold dF; simp)
    rwa [Nat.mul_one] at this
  · have := Tab.new (w.alloc (.cells (madeCells #[.pointer none] n) 57)) 62 #[.nilIface, .int .i32 0] n 2 rfl (rF (fun _ => 0) z 0) (fun i j _ hj => by unfold rF; simp)
    simpa using this
set_option maxRecDepth 100000 in
set_option maxHeartbeats 4000000 in
theorem lay6 (gl n : Nat) (z : Nat → Int) (w : World) (h : Tab w gl 21 1 n (fun i _ => .int .i32 (z i))) (h1 : 1 ≤ n) (hn : n ≤ 4096) :
    Calls Try.prog 6 #[.slice (some ⟨gl, 0, none⟩) n n] w fun e w' => ∃ gd gr D, e = .returned (.tuple #[.slice (some ⟨gd, 0, none⟩) n n, .slice (some ⟨gr, 0, none⟩) n n]) ∧ LU w z gl gd gr n n D w' := by
  obtain ⟨i0, hi, hz0, hz1, hz2⟩ := info_parts info57
  have hmk := fun (W : World) => run_make (P := Try.prog) W 29 57 i0 _ Try.underlying29 hi hz0 .i64 .i64 n n (by omega) (by omega) (by rw [hz2]; omega) (by omega)
  simp only [hz1, Int.toNat_natCast, Nat.mul_one] at hmk
  obtain ⟨i2, hi2, hz02, hz12, hz22⟩ := info_parts info62
  have hmk2 := fun (W : World) => run_make (P := Try.prog) W 30 62 i2 _ Try.underlying30 hi2 hz02 .i64 .i64 n n (by omega) (by omega) (by rw [hz22]; omega) (by omega)
  simp only [hz12, Int.toNat_natCast] at hmk2
  have Z0 := Lib.hid (LU.zero w z gl n h)
  clear h
  go_enter Try.func6, Try.ntmps6
  go_wp2
  clear hmk hmk2
  generalize ((w.alloc (.cells (madeCells #[.pointer none] n) 57)).alloc (.cells (madeCells #[.nilIface, .int .i32 0] (n * 2)) 62)) = W0 at *
  obtain ⟨gd, hgd⟩ : ∃ gd, w.heap.size = gd := ⟨_, rfl⟩
  obtain ⟨gr, hgr⟩ : ∃ gr, gd + 1 = gr := ⟨_, rfl⟩
  have Z1 := Lib.hid (show LU w z gl gd gr n 0 (fun _ => 0) W0 from hgr ▸ hgd ▸ Z0.out)
  simp only [hgd, hgr]
  clear Z0 hgr
  go_loopw [7] (fun i wr => ∃ (k : Nat) (D : Nat → Nat), k ≤ n ∧ i = .int .i64 k ∧ Hid (LU w z gl gd gr n k D wr)) (fun i _ => n - (intOf i).toNat)
  case atStart => exact ⟨0, _, Nat.zero_le _, rfl, Z1⟩
  case round =>
    obtain ⟨k, D, hk, rfl, LL⟩ := hrel
    clear Z1
    by_cases hlt : k < n
    · have q0 : (0 : Int) ≤ (k : Int) := by omega
      have q1 : (k : Int) < (n : Int) := by omega
      obtain ⟨ck, hck⟩ : ∃ ck, (k : Int) % 5 = ck := ⟨_, rfl⟩
      have hc5 : (k : Int).tmod 5 = ck := by rw [Int.tmod_eq_emod_of_nonneg q0]; exact hck
      have hck5 : 0 ≤ ck ∧ ck < 5 := by omega
      have hw8 : IntKind.u8.wrap ck = ck := by rw [IntKind.wrap_u8]; omega
      clear hck
      go_wp2_with fail
      refine (tok15 ck _ hck5.1 hck5.2).mono ?_
      rintro e W2 ⟨rfl, hb2⟩
      have L2 := Lib.hid (LL.out.below hb2)
      clear hb2 LL
      have y0 : ((W2.alloc (.cells #[.pointer none, .string (txT ck), .int .i32 0, .int .u32 0, .int .u16 0, .int .u8 (kdT ck), .int .u8 0] 41)).alloc (.cells #[.string ⟨#[]⟩, .slice (some ⟨W2.heap.size, 0, none⟩) 1 1, .int .i32 0, .int .i32 0, .int .u16 0, .bool false] 67)).cell? ⟨gd, k, none⟩ = some (.pointer none) := by
        have := ((L2.out.d.alloc (.cells #[.pointer none, .string (txT ck), .int .i32 0, .int .u32 0, .int .u16 0, .int .u8 (kdT ck), .int .u8 0] 41)).alloc (.cells #[.string ⟨#[]⟩, .slice (some ⟨W2.heap.size, 0, none⟩) 1 1, .int .i32 0, .int .i32 0, .int .u16 0, .bool false] 67)).cell (i := k) (j := 0) hlt (by omega)
        simpa [dF] using this
      have y1 : ((W2.alloc (.cells #[.pointer none, .string (txT ck), .int .i32 0, .int .u32 0, .int .u16 0, .int .u8 (kdT ck), .int .u8 0] 41)).alloc (.cells #[.string ⟨#[]⟩, .slice (some ⟨W2.heap.size, 0, none⟩) 1 1, .int .i32 0, .int .i32 0, .int .u16 0, .bool false] 67)).frozen? ⟨gd, k, none⟩ = false := ((L2.out.d.alloc _).alloc _).frozen _
      go_upto_region 8 with fail
      clear y0 y1
      have L4 := Lib.hid (show Tab (((W2.alloc (.cells #[.pointer none, .string (txT ck), .int .i32 0, .int .u32 0, .int .u16 0, .int .u8 (kdT ck), .int .u8 0] 41)).alloc (.cells #[.string ⟨#[]⟩, .slice (some ⟨W2.heap.size, 0, none⟩) 1 1, .int .i32 0, .int .i32 0, .int .u16 0, .bool false] 67)).setCell ⟨gd, k, none⟩ (.pointer (some ⟨W2.heap.size + 1, 0, none⟩))) gl 21 1 n (fun i _ => .int .i32 (z i)) ∧ Tab (((W2.alloc (.cells #[.pointer none, .string (txT ck), .int .i32 0, .int .u32 0, .int .u16 0, .int .u8 (kdT ck), .int .u8 0] 41)).alloc (.cells #[.string ⟨#[]⟩, .slice (some ⟨W2.heap.size, 0, none⟩) 1 1, .int .i32 0, .int .i32 0, .int .u16 0, .bool false] 67)).setCell ⟨gd, k, none⟩ (.pointer (some ⟨W2.heap.size + 1, 0, none⟩))) gd 57 1 n (dF (fun i => if i = k then W2.heap.size + 1 else D i) (k + 1)) ∧ Tab (((W2.alloc (.cells #[.pointer none, .string (txT ck), .int .i32 0, .int .u32 0, .int .u16 0, .int .u8 (kdT ck), .int .u8 0] 41)).alloc (.cells #[.string ⟨#[]⟩, .slice (some ⟨W2.heap.size, 0, none⟩) 1 1, .int .i32 0, .int .i32 0, .int .u16 0, .bool false] 67)).setCell ⟨gd, k, none⟩ (.pointer (some ⟨W2.heap.size + 1, 0, none⟩))) gr 62 2 n (rF D z k) ∧ Below w.heap.size w (((W2.alloc (.cells #[.pointer none, .string (txT ck), .int .i32 0, .int .u32 0, .int .u16 0, .int .u8 (kdT ck), .int .u8 0] 41)).alloc (.cells #[.string ⟨#[]⟩, .slice (some ⟨W2.heap.size, 0, none⟩) 1 1, .int .i32 0, .int .i32 0, .int .u16 0, .bool false] 67)).setCell ⟨gd, k, none⟩ (.pointer (some ⟨W2.heap.size + 1, 0, none⟩))) ∧ Cel (((W2.alloc (.cells #[.pointer none, .string (txT ck), .int .i32 0, .int .u32 0, .int .u16 0, .int .u8 (kdT ck), .int .u8 0] 41)).alloc (.cells #[.string ⟨#[]⟩, .slice (some ⟨W2.heap.size, 0, none⟩) 1 1, .int .i32 0, .int .i32 0, .int .u16 0, .bool false] 67)).setCell ⟨gd, k, none⟩ (.pointer (some ⟨W2.heap.size + 1, 0, none⟩))) (W2.heap.size + 1) ∧ ∀ i, i < k → Cel (((W2.alloc (.cells #[.pointer none, .string (txT ck), .int .i32 0, .int .u32 0, .int .u16 0, .int .u8 (kdT ck), .int .u8 0] 41)).alloc (.cells #[.string ⟨#[]⟩, .slice (some ⟨W2.heap.size, 0, none⟩) 1 1, .int .i32 0, .int .i32 0, .int .u16 0, .bool false] 67)).setCell ⟨gd, k, none⟩ (.pointer (some ⟨W2.heap.size + 1, 0, none⟩))) (D i) from by
        obtain ⟨a1, a2, a3, a4, a5, a6, a7⟩ := L2.out
        refine ⟨((a1.alloc _).alloc _).far (p := ⟨gd, k, none⟩) a6.1 _, dF_step ((a2.alloc _).alloc _) hlt, ((a3.alloc _).alloc _).far (p := ⟨gd, k, none⟩) (Ne.symm a6.2.2) _, ((a4.alloc a4.size _).alloc (by simp; exact Nat.le_succ_of_le a4.size) _).setCell a5.1 _, Cel.setCell ⟨_, by simpa using Blk.new (W2.alloc (.cells #[.pointer none, .string (txT ck), .int .i32 0, .int .u32 0, .int .u16 0, .int .u8 (kdT ck), .int .u8 0] 41)) 67 #[.string ⟨#[]⟩, .slice (some ⟨W2.heap.size, 0, none⟩) 1 1, .int .i32 0, .int .i32 0, .int .u16 0, .bool false]⟩ _ _ _, fun i hi => ((a7 i hi).below (((Below.refl _ _).alloc (Nat.le_refl _) _).alloc (by simp) _)).setCell _ _ _⟩)
      have F4 := Lib.hid (And.intro L2.out.h L2.out.n)
      generalize (((W2.alloc (.cells #[.pointer none, .string (txT ck), .int .i32 0, .int .u32 0, .int .u16 0, .int .u8 (kdT ck), .int .u8 0] 41)).alloc (.cells #[.string ⟨#[]⟩, .slice (some ⟨W2.heap.size, 0, none⟩) 1 1, .int .i32 0, .int .i32 0, .int .u16 0, .bool false] 67)).setCell ⟨gd, k, none⟩ (.pointer (some ⟨W2.heap.size + 1, 0, none⟩))) = W4 at *
      generalize W2.heap.size + 1 = dd at *
      clear L2
      have z0 : W4.cell? ⟨gl, k, none⟩ = some (.int .i32 (z k)) := by
        have := L4.out.1.cell (i := k) (j := 0) hlt (by omega)
        simpa using this
      have z1 : W4.cell? ⟨gr, k * 2, none⟩ = some .nilIface := by
        have := L4.out.2.2.1.cell (i := k) (j := 0) hlt (by omega)
        simpa [rF] using this
      have z2 : W4.cell? ⟨gr, k * 2 + 1, none⟩ = some (.int .i32 0) := by
        have := L4.out.2.2.1.cell (i := k) (j := 1) hlt (by omega)
        simpa [rF] using this
      have z3 : W4.frozen? ⟨gr, k * 2, none⟩ = false := L4.out.2.2.1.frozen _
      have z4 : W4.frozen? ⟨gr, k * 2 + 1, none⟩ = false := L4.out.2.2.1.frozen _
      have y0 : W4.cell? ⟨gd, k, none⟩ = some (.pointer (some ⟨dd, 0, none⟩)) := by
        have := L4.out.2.1.cell (i := k) (j := 0) hlt (by omega)
        simpa [dF] using this
      have n1 : ¬ gr = gd := fun h => F4.out.2.2.2 h.symm
      have n2 : ¬ gl = gr := F4.out.2.2.1
      have n3 : ¬ gd = gr := F4.out.2.2.2
      have n4 : ¬ gr = gl := fun h => F4.out.2.2.1 h.symm
      go_region
      clear z0 z1 z2 z3 z4 y0 n1 n2 n3 n4
      have L5 := Lib.hid (show LU w z gl gd gr n (k + 1) (fun i => if i = k then dd else D i) ((W4.setCell ⟨gr, k * 2, none⟩ (.iface 57 (.pointer (some ⟨dd, 0, none⟩)))).setCell ⟨gr, k * 2 + 1, none⟩ (.int .i32 (z k))).drew from by
        obtain ⟨a1, a2, a3, a4, a5, a6⟩ := L4.out
        obtain ⟨h1, h2⟩ := F4.out
        refine LU.below (W := ((W4.setCell ⟨gr, k * 2, none⟩ (.iface 57 (.pointer (some ⟨dd, 0, none⟩)))).setCell ⟨gr, k * 2 + 1, none⟩ (.int .i32 (z k)))) ⟨(a1.far (p := ⟨gr, k * 2, none⟩) h2.2.1 _).far (p := ⟨gr, k * 2 + 1, none⟩) h2.2.1 _, (a2.far (p := ⟨gr, k * 2, none⟩) h2.2.2 _).far (p := ⟨gr, k * 2 + 1, none⟩) h2.2.2 _, rF_step a3 hlt, (a4.setCell h1.2 _).setCell h1.2 _, h1, h2, fun i hi => Cel.setCell (Cel.setCell ?_ _ _ _) _ _ _⟩ (Below.refl _ _).drew
        show Cel W4 (if i = k then dd else D i)
        split
        · exact a5
        · exact a6 i (by omega))
      go_wp2_with fail
      go_roundw
      case rel => exact ⟨k + 1, _, by omega, by go_num, L5⟩
      case measure => simp [intOf]; omega
    · obtain rfl : k = n := by omega
      go_wp2_with fail
      refine bodyPost_ret (v := .tuple #[.slice (some ⟨gd, 0, none⟩) k k, .slice (some ⟨gr, 0, none⟩) k k]) (by simp [results, Try.results6, go_sem]; done) rfl ?_
      exact ⟨_, _, _, rfl, LL.out⟩
set_option maxRecDepth 100000 in
set_option maxHeartbeats 4000000 in
theorem declIs14 (d : Nat) (ks kl : Int) (im : Bool) (V : Value) (w : World) (h : Blk w d 67 #[.string ⟨#[98, 111, 114, 100, 101, 114, 45, 114, 97, 100, 105, 117, 115]⟩, V, .int .i32 ks, .int .i32 kl, .int .u16 66, .bool im]) :
    Calls Try.prog 14 #[.pointer (some ⟨d, 0, none⟩), .agg #[.int .i32 ks, .int .i32 kl], .bool im] w fun e w' => e = .returned (.bool true) ∧ Below w.heap.size w w' := by
  have hlt := h.lt
  have ne : ¬ d = w.heap.size := by omega
  have B0 := Lib.hid (fun (o : Obj) => show Below w.heap.size w (w.alloc o).drew from ((Below.refl _ _).alloc (Nat.le_refl _) _).drew)
  have NB := Lib.hid (show Blk (w.alloc (.cells #[.int .i32 ks, .int .i32 kl] 54)) w.heap.size 54 #[.int .i32 ks, .int .i32 kl] ∧ Blk (w.alloc (.cells #[.int .i32 ks, .int .i32 kl] 54)) d 67 #[.string ⟨#[98, 111, 114, 100, 101, 114, 45, 114, 97, 100, 105, 117, 115]⟩, V, .int .i32 ks, .int .i32 kl, .int .u16 66, .bool im] from ⟨Blk.new _ _ _, h.alloc _⟩)
  have BB := Lib.hid (show Below w.heap.size w (w.alloc (.cells #[.int .i32 ks, .int .i32 kl] 54)) from (Below.refl _ _).alloc (Nat.le_refl _) _)
  clear h B0
  go_enter Try.func14, Try.ntmps14
  go_upto_region 1 with fail
  generalize w.alloc (.cells #[.int .i32 ks, .int .i32 kl] 54) = W at *
  have c0 : W.cell? ⟨d, 0, none⟩ = some (.string ⟨#[98, 111, 114, 100, 101, 114, 45, 114, 97, 100, 105, 117, 115]⟩) := NB.out.2.cell 0
  have c2 : W.cell? ⟨d, 2, none⟩ = some (.int .i32 ks) := NB.out.2.cell 2
  have c3 : W.cell? ⟨d, 3, none⟩ = some (.int .i32 kl) := NB.out.2.cell 3
  have c4 : W.cell? ⟨d, 4, none⟩ = some (.int .u16 66) := NB.out.2.cell 4
  have c5 : W.cell? ⟨d, 5, none⟩ = some (.bool im) := NB.out.2.cell 5
  have r0 : W.cell? ⟨w.heap.size, 0, none⟩ = some (.int .i32 ks) := NB.out.1.cell 0
  have r1 : W.cell? ⟨w.heap.size, 1, none⟩ = some (.int .i32 kl) := NB.out.1.cell 1
  go_region
  go_wp2
  go_ret
  exact ⟨by simp, BB.out.drew⟩
end Go.Proofs.Ytnolnlekdlfeaaa.ZT
