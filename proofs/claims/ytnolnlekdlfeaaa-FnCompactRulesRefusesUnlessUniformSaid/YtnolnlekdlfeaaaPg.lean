/- FnCompactRulesRefusesUnlessUniform, walked. Printed by gen_pf.py. -/
import Derived.Test.YtnolnlekdlfeaaaPf
namespace Go.Proofs.Ytnolnlekdlfeaaa.ZT
open Go.RowKit Go.Proofs.Ytnolnlekdlfeaaa.TB
set_option linter.unusedVariables false
theorem MW.keeps {w0 W : World} {p v : Nat → Bool} {st x z : Nat → Int} {n gp gs gv gx gl gd gr gi gk k : Nat} {D : Nat → Nat} {S : Nat → Cn} (h : MW w0 p v st x z n gp gs gv gx gl gd gr gi gk D S k W) {j : Nat} (hj : j < n) : KJ gr gd gl j (D j) (z j) W W := by
  refine ⟨Below.refl _ _, h.r.lt, h.d.lt, h.l.lt, ?_, ?_, ?_, ?_⟩
  · have := h.r.cell (i := j) (j := 0) hj (by omega)
    unfold rF at this
    rw [if_pos hj] at this
    simpa using this
  · have := h.r.cell (i := j) (j := 1) hj (by omega)
    unfold rF at this
    rw [if_pos hj] at this
    simpa using this
  · have := i1 h.d hj
    unfold dF at this
    rw [if_pos hj] at this
    exact this
  · exact i1 h.l hj
/-- What compactRules leaves behind. -/
def CYP (rg n : Nat) (S : Nat → Cn) (im mw : Bool) (D : Nat → Nat) (z : Nat → Int) (R : Nat → Nat) (w w' : World) : Prop :=
  ∃ d tg W', Tab w' rg 62 2 n (rc (fD (fun i => some (D i)) R d) (fL z R)) ∧ Blk w' d 67 #[.string ⟨#[98, 111, 114, 100, 101, 114, 45, 114, 97, 100, 105, 117, 115]⟩, .slice (some ⟨tg, 0, none⟩) (cm (fun i => (S i).k) (fun i => (S i).t)) 4, .int .i32 5, .int .i32 13, .int .u16 66, .bool im] ∧
    TR w' (some ⟨tg, 0, none⟩) (cm (fun i => (S i).k) (fun i => (S i).t)) (tc (fun i => (S i).k) (fun i => (S i).t) W' (fun _ => 0)) ∧ (∀ i, i < cm (fun i => (S i).k) (fun i => (S i).t) → W' i = wsv (cm (fun i => (S i).k) (fun i => (S i).t)) mw i) ∧ Kept w.heap.size rg w w' ∧ w.heap.size ≤ d
/-- What the law looks at behind a shorthand that was made. -/
structure MY (w0 : World) (p v : Nat → Bool) (st x : Nat → Int) (n gp gs gv gi gd gr gR tg dd r3 : Nat) (L3 : Int) (T3 : ByteArray) (K3 : Int) (im : Bool) (D : Nat → Nat) (W : World) : Prop where
  bp : Tab W gp 22 1 4 (fun i _ => .bool (p i))
  bs : Tab W gs 23 1 4 (fun i _ => .int .u8 (st i))
  bv : Tab W gv 22 1 4 (fun i _ => .bool (v i))
  i : W.cell? ⟨gi, 3, none⟩ = some (.int .i64 (r3 : Int))
  r0 : W.cell? ⟨gr, r3 * 2, none⟩ = some (.iface 57 (.pointer (some ⟨dd, 0, none⟩)))
  r1 : W.cell? ⟨gr, r3 * 2 + 1, none⟩ = some (.int .i32 L3)
  d : W.cell? ⟨gd, r3, none⟩ = some (.pointer (some ⟨D r3, 0, none⟩))
  g : Blk W gR 54 #[.int .i32 5, .int .i32 13]
  e : Blk W dd 67 #[.string ⟨#[98, 111, 114, 100, 101, 114, 45, 114, 97, 100, 105, 117, 115]⟩, .slice (some ⟨tg, 0, none⟩) 1 4, .int .i32 5, .int .i32 13, .int .u16 66, .bool im]
  c : Cel W (D r3)
  ne : dd ≠ D r3
  t1 : W.cell? ⟨tg, 1, none⟩ = some (.string T3)
  t5 : W.cell? ⟨tg, 5, none⟩ = some (.int .u8 K3)
  k : K3 = kS (st 0 % 3)
  t : T3 = tS (st 0 % 3) (v 0)
  b : Below w0.heap.size w0 W
section
variable {w0 W W' : World} {p v : Nat → Bool} {st x : Nat → Int} {n gp gs gv gi gd gr gR tg dd r3 : Nat} {L3 : Int} {T3 : ByteArray} {K3 : Int} {im : Bool} {D : Nat → Nat}
theorem MY.below (h : MY w0 p v st x n gp gs gv gi gd gr gR tg dd r3 L3 T3 K3 im D W) (hb : Below W.heap.size W W') : MY w0 p v st x n gp gs gv gi gd gr gR tg dd r3 L3 T3 K3 im D W' := by
  have c := fun (p : Addr) (u : Value) (h : W.cell? p = some u) => (hb.cell (World.block_lt_of_cell? W p h)).trans h
  exact ⟨h.bp.below hb h.bp.lt, h.bs.below hb h.bs.lt, h.bv.below hb h.bv.lt, c _ _ h.i, c _ _ h.r0, c _ _ h.r1, c _ _ h.d, h.g.below hb h.g.lt, h.e.below hb h.e.lt, h.c.below hb, h.ne, c _ _ h.t1, c _ _ h.t5, h.k, h.t, h.b.trans (hb.mono h.b.size)⟩
theorem MY.other (h : MY w0 p v st x n gp gs gv gi gd gr gR tg dd r3 L3 T3 K3 im D W) : (binOp .eql 57 (.pointer (some ⟨dd, 0, none⟩)) (.pointer (some ⟨D r3, 0, none⟩))).run Try.prog W = .ok (.bool false) W := by
  obtain ⟨cs, hc⟩ := h.c
  obtain ⟨j67, h67, -⟩ := info_parts (show (Try.prog.info? 67).map (fun i => (i.zero, i.size, i.bytes)) = some (some (.agg #[.string ⟨#[]⟩, .slice none 0 0, .int .i32 0, .int .i32 0, .int .u16 0, .bool false]), 6, 56) by kernel_rfl)
  have hs : (Try.prog.info? 67).map (·.size) = some 6 := by kernel_rfl
  rw [h67] at hs
  have hs6 : j67.size = 6 := by simpa using hs
  exact run_eql_ptr_other (P := Try.prog) (w := W) (tp := 57) (te := 67) Try.underlying57 h67 (by rw [hs6]; omega) (fun e => h.ne (by injection e)) h.e hc
end
theorem MY.of {w0 W W' : World} {p v : Nat → Bool} {st x z : Nat → Int} {n gp gs gv gx gl gd gr gi gk gR : Nat} {D : Nat → Nat} {S : Nat → Cn} {im mw : Bool} (h : MW w0 p v st x z n gp gs gv gx gl gd gr gi gk D S 4 W) (ne : NE w0.heap.size gp gs gv gx gl gd gr gi gk) (hg : Blk W gR 54 #[.int .i32 5, .int .i32 13]) (hne : gR ≠ gr) (hgl : gR < W.heap.size)
    (hk : ∀ i, i < 4 → (S i).k = kS (st 0 % 3)) (ht : ∀ i, i < 4 → (S i).t = tS (st 0 % 3) (v 0)) (hr : (x 3 % (n : Int)).toNat < n) (hc : CYP gr n S im mw D z (fun s => (x s % (n : Int)).toNat) W W') :
    ∃ dd tg L3 T3 K3, MY w0 p v st x n gp gs gv gi gd gr gR tg dd (x 3 % (n : Int)).toNat L3 T3 K3 im D W' := by
  obtain ⟨d, tg, Ws, c1, c2, c3, -, c5, c6⟩ := hc
  have hone := cm_one (K := fun i => (S i).k) (T := fun i => (S i).t) hk ht
  rw [hone] at c2 c3
  obtain ⟨b, o, e, hl, hcc⟩ := c3 (by omega)
  injection e with e
  injection e with e1 e2
  subst e1 e2
  obtain ⟨-, -, hB, -, ⟨n1, n2, n3, n4, n5⟩, hB2⟩ := ne
  have hd := i1 h.d hr
  unfold dF at hd
  rw [if_pos hr] at hd
  have hi := i1 h.i (show 3 < 4 by omega)
  unfold iF at hi
  rw [if_pos (by omega)] at hi
  have hnn : (0 : Int) ≤ x 3 % (n : Int) := Int.emod_nonneg _ (by omega)
  refine ⟨d, tg, fL z (fun s => (x s % (n : Int)).toNat) (x 3 % (n : Int)).toNat, (S 0).t, (S 0).k, c5.tab h.bp h.bp.lt n1, c5.tab h.bs h.bs.lt n2, c5.tab h.bv h.bv.lt n3, ?_, ?_, ?_, ?_, c5.blk hg hgl hne, c2, ?_, ?_, ?_, ?_, hk 0 (by omega), ht 0 (by omega), h.b.trans (c5.below h.b.size hB2)⟩
  · rw [c5.cell 3 h.i.lt n5, hi, Int.toNat_of_nonneg hnn]
  · have := c1.cell (i := (x 3 % (n : Int)).toNat) (j := 0) hr (by omega)
    rw [Nat.add_zero] at this
    rw [this]
    simp [rc, fD, dv]
  · have := c1.cell (i := (x 3 % (n : Int)).toNat) (j := 1) hr (by omega)
    rw [this]
    rfl
  · rw [c5.cell _ h.d.lt n4, hd]
  · obtain ⟨cs, q⟩ := h.a _ hr
    exact ⟨cs, c5.blk q q.lt (MW.apart (W' := W) h hr)⟩
  · obtain ⟨cs, q⟩ := h.a _ hr
    have := q.lt
    omega
  · have := hcc 0 1 (by omega) (by omega)
    simpa [tc] using this
  · have := hcc 0 5 (by omega) (by omega)
    simpa [tc] using this
theorem tab4 {W : World} {g t : Nat} {a b c d : Value} {f : Nat → Value} (h : Blk W g t #[a, b, c, d]) (h0 : a = f 0) (h1 : b = f 1) (h2 : c = f 2) (h3 : d = f 3) : Tab W g t 1 4 (fun i _ => f i) := by
  subst h0 h1 h2 h3
  refine ⟨_, h, rfl, fun i j hi hj => ?_⟩
  obtain rfl : j = 0 := by omega
  rcases fourI hi with rfl | rfl | rfl | rfl <;> rfl
/-- The boxed arrays. -/
theorem boxes (p v : Nat → Bool) (st x : Nat → Int) (w : World) :
    Tab ((((w.alloc (.cells #[.bool (p 0), .bool (p 1), .bool (p 2), .bool (p 3)] 22)).alloc (.cells #[.int .u8 (st 0), .int .u8 (st 1), .int .u8 (st 2), .int .u8 (st 3)] 23)).alloc (.cells #[.bool (v 0), .bool (v 1), .bool (v 2), .bool (v 3)] 22)).alloc (.cells #[.int .u16 (x 0), .int .u16 (x 1), .int .u16 (x 2), .int .u16 (x 3)] 25)) w.heap.size 22 1 4 (fun i _ => .bool (p i)) ∧ Tab ((((w.alloc (.cells #[.bool (p 0), .bool (p 1), .bool (p 2), .bool (p 3)] 22)).alloc (.cells #[.int .u8 (st 0), .int .u8 (st 1), .int .u8 (st 2), .int .u8 (st 3)] 23)).alloc (.cells #[.bool (v 0), .bool (v 1), .bool (v 2), .bool (v 3)] 22)).alloc (.cells #[.int .u16 (x 0), .int .u16 (x 1), .int .u16 (x 2), .int .u16 (x 3)] 25)) (w.heap.size + 1) 23 1 4 (fun i _ => .int .u8 (st i)) ∧ Tab ((((w.alloc (.cells #[.bool (p 0), .bool (p 1), .bool (p 2), .bool (p 3)] 22)).alloc (.cells #[.int .u8 (st 0), .int .u8 (st 1), .int .u8 (st 2), .int .u8 (st 3)] 23)).alloc (.cells #[.bool (v 0), .bool (v 1), .bool (v 2), .bool (v 3)] 22)).alloc (.cells #[.int .u16 (x 0), .int .u16 (x 1), .int .u16 (x 2), .int .u16 (x 3)] 25)) (w.heap.size + 1 + 1) 22 1 4 (fun i _ => .bool (v i)) ∧ Tab ((((w.alloc (.cells #[.bool (p 0), .bool (p 1), .bool (p 2), .bool (p 3)] 22)).alloc (.cells #[.int .u8 (st 0), .int .u8 (st 1), .int .u8 (st 2), .int .u8 (st 3)] 23)).alloc (.cells #[.bool (v 0), .bool (v 1), .bool (v 2), .bool (v 3)] 22)).alloc (.cells #[.int .u16 (x 0), .int .u16 (x 1), .int .u16 (x 2), .int .u16 (x 3)] 25)) (w.heap.size + 1 + 1 + 1) 25 1 4 (fun i _ => .int .u16 (x i)) ∧ Below w.heap.size w ((((w.alloc (.cells #[.bool (p 0), .bool (p 1), .bool (p 2), .bool (p 3)] 22)).alloc (.cells #[.int .u8 (st 0), .int .u8 (st 1), .int .u8 (st 2), .int .u8 (st 3)] 23)).alloc (.cells #[.bool (v 0), .bool (v 1), .bool (v 2), .bool (v 3)] 22)).alloc (.cells #[.int .u16 (x 0), .int .u16 (x 1), .int .u16 (x 2), .int .u16 (x 3)] 25)) := by
  refine ⟨tab4 ((((Blk.new _ _ _).alloc _).alloc _).alloc _) rfl rfl rfl rfl, tab4 (Blk.alloc (Blk.alloc (by simpa using Blk.new (w.alloc (.cells #[.bool (p 0), .bool (p 1), .bool (p 2), .bool (p 3)] 22)) 23 #[.int .u8 (st 0), .int .u8 (st 1), .int .u8 (st 2), .int .u8 (st 3)]) _) _) rfl rfl rfl rfl, tab4 (Blk.alloc (by simpa using Blk.new ((w.alloc (.cells #[.bool (p 0), .bool (p 1), .bool (p 2), .bool (p 3)] 22)).alloc (.cells #[.int .u8 (st 0), .int .u8 (st 1), .int .u8 (st 2), .int .u8 (st 3)] 23)) 22 #[.bool (v 0), .bool (v 1), .bool (v 2), .bool (v 3)]) _) rfl rfl rfl rfl, tab4 (by simpa using Blk.new (((w.alloc (.cells #[.bool (p 0), .bool (p 1), .bool (p 2), .bool (p 3)] 22)).alloc (.cells #[.int .u8 (st 0), .int .u8 (st 1), .int .u8 (st 2), .int .u8 (st 3)] 23)).alloc (.cells #[.bool (v 0), .bool (v 1), .bool (v 2), .bool (v 3)] 22)) 25 #[.int .u16 (x 0), .int .u16 (x 1), .int .u16 (x 2), .int .u16 (x 3)]) rfl rfl rfl rfl, ((((Below.refl _ _).alloc (Nat.le_refl _) _).alloc (by simp) _).alloc (by simp; omega) _).alloc (by simp; omega) _⟩
theorem kF_zero {W : World} {g : Nat} {S : Nat → Cn} (h : Blk W g 47 #[.pointer none, .string ⟨#[]⟩, .int .i32 0, .int .u32 0, .int .u16 0, .int .u8 0, .int .u8 0, .pointer none, .string ⟨#[]⟩, .int .i32 0, .int .u32 0, .int .u16 0, .int .u8 0, .int .u8 0, .string ⟨#[]⟩, .int .u8 0, .int .u32 0, .bool false, .pointer none, .string ⟨#[]⟩, .int .i32 0, .int .u32 0, .int .u16 0, .int .u8 0, .int .u8 0, .pointer none, .string ⟨#[]⟩, .int .i32 0, .int .u32 0, .int .u16 0, .int .u8 0, .int .u8 0, .string ⟨#[]⟩, .int .u8 0, .int .u32 0, .bool false, .pointer none, .string ⟨#[]⟩, .int .i32 0, .int .u32 0, .int .u16 0, .int .u8 0, .int .u8 0, .pointer none, .string ⟨#[]⟩, .int .i32 0, .int .u32 0, .int .u16 0, .int .u8 0, .int .u8 0, .string ⟨#[]⟩, .int .u8 0, .int .u32 0, .bool false, .pointer none, .string ⟨#[]⟩, .int .i32 0, .int .u32 0, .int .u16 0, .int .u8 0, .int .u8 0, .pointer none, .string ⟨#[]⟩, .int .i32 0, .int .u32 0, .int .u16 0, .int .u8 0, .int .u8 0, .string ⟨#[]⟩, .int .u8 0, .int .u32 0, .bool false]) : Tab W g 47 18 4 (kF S 0) := by
  refine ⟨_, h, rfl, fun i j hi hj => ?_⟩
  unfold kF
  rw [if_neg (by omega)]
  rcases fourI hi with rfl | rfl | rfl | rfl
  all_goals
    rcases (by omega : j = 0 ∨ j = 1 ∨ j = 2 ∨ j = 3 ∨ j = 4 ∨ j = 5 ∨ j = 6 ∨ j = 7 ∨ j = 8 ∨ j = 9 ∨ j = 10 ∨ j = 11 ∨ j = 12 ∨ j = 13 ∨ j = 14 ∨ j = 15 ∨ j = 16 ∨ j = 17) with rfl | rfl | rfl | rfl | rfl | rfl | rfl | rfl | rfl | rfl | rfl | rfl | rfl | rfl | rfl | rfl | rfl | rfl
    all_goals rfl
theorem zero47 (W : World) : (zeroValue 47).run Try.prog W = .ok (.agg #[.pointer none, .string ⟨#[]⟩, .int .i32 0, .int .u32 0, .int .u16 0, .int .u8 0, .int .u8 0, .pointer none, .string ⟨#[]⟩, .int .i32 0, .int .u32 0, .int .u16 0, .int .u8 0, .int .u8 0, .string ⟨#[]⟩, .int .u8 0, .int .u32 0, .bool false, .pointer none, .string ⟨#[]⟩, .int .i32 0, .int .u32 0, .int .u16 0, .int .u8 0, .int .u8 0, .pointer none, .string ⟨#[]⟩, .int .i32 0, .int .u32 0, .int .u16 0, .int .u8 0, .int .u8 0, .string ⟨#[]⟩, .int .u8 0, .int .u32 0, .bool false, .pointer none, .string ⟨#[]⟩, .int .i32 0, .int .u32 0, .int .u16 0, .int .u8 0, .int .u8 0, .pointer none, .string ⟨#[]⟩, .int .i32 0, .int .u32 0, .int .u16 0, .int .u8 0, .int .u8 0, .string ⟨#[]⟩, .int .u8 0, .int .u32 0, .bool false, .pointer none, .string ⟨#[]⟩, .int .i32 0, .int .u32 0, .int .u16 0, .int .u8 0, .int .u8 0, .pointer none, .string ⟨#[]⟩, .int .i32 0, .int .u32 0, .int .u16 0, .int .u8 0, .int .u8 0, .string ⟨#[]⟩, .int .u8 0, .int .u32 0, .bool false]) W := by kernel_rfl
/-- Ahead of the first loop. -/
theorem MW.start {w0 W : World} {p v : Nat → Bool} {st x z : Nat → Int} {n gp gs gv gx gl gd gr : Nat} {D : Nat → Nat} {S : Nat → Cn} (bp : Tab W gp 22 1 4 (fun i _ => .bool (p i))) (bs : Tab W gs 23 1 4 (fun i _ => .int .u8 (st i))) (bv : Tab W gv 22 1 4 (fun i _ => .bool (v i))) (bx : Tab W gx 25 1 4 (fun i _ => .int .u16 (x i)))
    (l : Tab W gl 21 1 n (fun i _ => .int .i32 (z i))) (d : Tab W gd 57 1 n (dF D n)) (r : Tab W gr 62 2 n (rF D z n)) (a : ∀ i, i < n → Cel W (D i)) (b : Below w0.heap.size w0 W) :
    MW w0 p v st x z n gp gs gv gx gl gd gr W.heap.size (W.heap.size + 1) D S 0 ((W.alloc (.cells #[.int .i64 0, .int .i64 0, .int .i64 0, .int .i64 0] 33)).alloc (.cells #[.pointer none, .string ⟨#[]⟩, .int .i32 0, .int .u32 0, .int .u16 0, .int .u8 0, .int .u8 0, .pointer none, .string ⟨#[]⟩, .int .i32 0, .int .u32 0, .int .u16 0, .int .u8 0, .int .u8 0, .string ⟨#[]⟩, .int .u8 0, .int .u32 0, .bool false, .pointer none, .string ⟨#[]⟩, .int .i32 0, .int .u32 0, .int .u16 0, .int .u8 0, .int .u8 0, .pointer none, .string ⟨#[]⟩, .int .i32 0, .int .u32 0, .int .u16 0, .int .u8 0, .int .u8 0, .string ⟨#[]⟩, .int .u8 0, .int .u32 0, .bool false, .pointer none, .string ⟨#[]⟩, .int .i32 0, .int .u32 0, .int .u16 0, .int .u8 0, .int .u8 0, .pointer none, .string ⟨#[]⟩, .int .i32 0, .int .u32 0, .int .u16 0, .int .u8 0, .int .u8 0, .string ⟨#[]⟩, .int .u8 0, .int .u32 0, .bool false, .pointer none, .string ⟨#[]⟩, .int .i32 0, .int .u32 0, .int .u16 0, .int .u8 0, .int .u8 0, .pointer none, .string ⟨#[]⟩, .int .i32 0, .int .u32 0, .int .u16 0, .int .u8 0, .int .u8 0, .string ⟨#[]⟩, .int .u8 0, .int .u32 0, .bool false] 47)) := by
  refine ⟨(bp.alloc _).alloc _, (bs.alloc _).alloc _, (bv.alloc _).alloc _, (bx.alloc _).alloc _, (l.alloc _).alloc _, (d.alloc _).alloc _, (r.alloc _).alloc _, fun i hi => (a i hi).below (((Below.refl _ _).alloc (Nat.le_refl _) _).alloc (by simp) _), tab4 ((Blk.new _ _ _).alloc _) rfl rfl rfl rfl, kF_zero (by simpa using Blk.new (W.alloc (.cells #[.int .i64 0, .int .i64 0, .int .i64 0, .int .i64 0] 33)) 47 #[.pointer none, .string ⟨#[]⟩, .int .i32 0, .int .u32 0, .int .u16 0, .int .u8 0, .int .u8 0, .pointer none, .string ⟨#[]⟩, .int .i32 0, .int .u32 0, .int .u16 0, .int .u8 0, .int .u8 0, .string ⟨#[]⟩, .int .u8 0, .int .u32 0, .bool false, .pointer none, .string ⟨#[]⟩, .int .i32 0, .int .u32 0, .int .u16 0, .int .u8 0, .int .u8 0, .pointer none, .string ⟨#[]⟩, .int .i32 0, .int .u32 0, .int .u16 0, .int .u8 0, .int .u8 0, .string ⟨#[]⟩, .int .u8 0, .int .u32 0, .bool false, .pointer none, .string ⟨#[]⟩, .int .i32 0, .int .u32 0, .int .u16 0, .int .u8 0, .int .u8 0, .pointer none, .string ⟨#[]⟩, .int .i32 0, .int .u32 0, .int .u16 0, .int .u8 0, .int .u8 0, .string ⟨#[]⟩, .int .u8 0, .int .u32 0, .bool false, .pointer none, .string ⟨#[]⟩, .int .i32 0, .int .u32 0, .int .u16 0, .int .u8 0, .int .u8 0, .pointer none, .string ⟨#[]⟩, .int .i32 0, .int .u32 0, .int .u16 0, .int .u8 0, .int .u8 0, .string ⟨#[]⟩, .int .u8 0, .int .u32 0, .bool false]), (b.alloc b.size _).alloc (by simp; exact Nat.le_succ_of_le b.size) _⟩
set_option maxRecDepth 100000 in
set_option maxHeartbeats 16000000 in
theorem law3 (p v : Nat → Bool) (st x z : Nat → Int) (A : Option Addr) (n cp : Nat) (im mw : Bool) (w : World) (hst : ∀ i, i < 4 → 0 ≤ st i ∧ st i ≤ 255) (hx : ∀ i, i < 4 → 0 ≤ x i ∧ x i ≤ 65535) (r : LR w A n z) (hn : n ≤ 9223372036854775807) :
    Calls Try.prog 3 #[.agg #[.bool (p 0), .bool (p 1), .bool (p 2), .bool (p 3)], .agg #[.int .u8 (st 0), .int .u8 (st 1), .int .u8 (st 2), .int .u8 (st 3)], .agg #[.bool (v 0), .bool (v 1), .bool (v 2), .bool (v 3)], .agg #[.int .u16 (x 0), .int .u16 (x 1), .int .u16 (x 2), .int .u16 (x 3)], .slice A n cp, .bool im, .bool mw] w fun e w' => e = .returned (.bool true) ∧ Below w.heap.size w w' := by
  have HST := Lib.hid hst
  have HX := Lib.hid hx
  have R := Lib.hid r
  clear hst hx r
  have T0 := Lib.hid (boxes p v st x w)
  go_enter Try.func3, Try.ntmps3
  go_upto_region 1 with fail
  generalize ((((w.alloc (.cells #[.bool (p 0), .bool (p 1), .bool (p 2), .bool (p 3)] 22)).alloc (.cells #[.int .u8 (st 0), .int .u8 (st 1), .int .u8 (st 2), .int .u8 (st 3)] 23)).alloc (.cells #[.bool (v 0), .bool (v 1), .bool (v 2), .bool (v 3)] 22)).alloc (.cells #[.int .u16 (x 0), .int .u16 (x 1), .int .u16 (x 2), .int .u16 (x 3)] 25)) = W0 at *
  obtain ⟨gp, hgp⟩ : ∃ gp, w.heap.size = gp := ⟨_, rfl⟩
  rw [hgp] at T0
  simp only [hgp]
  have a0 : W0.cell? ⟨gp, 0, none⟩ = some (.bool (p 0)) := i1 T0.out.1 (by omega)
  have a1 : W0.cell? ⟨gp, 1, none⟩ = some (.bool (p 1)) := i1 T0.out.1 (by omega)
  have a2 : W0.cell? ⟨gp, 2, none⟩ = some (.bool (p 2)) := i1 T0.out.1 (by omega)
  have a3 : W0.cell? ⟨gp, 3, none⟩ = some (.bool (p 3)) := i1 T0.out.1 (by omega)
  have b0 : W0.cell? ⟨gp + 1, 0, none⟩ = some (.int .u8 (st 0)) := i1 T0.out.2.1 (by omega)
  have b1 : W0.cell? ⟨gp + 1, 1, none⟩ = some (.int .u8 (st 1)) := i1 T0.out.2.1 (by omega)
  have b2 : W0.cell? ⟨gp + 1, 2, none⟩ = some (.int .u8 (st 2)) := i1 T0.out.2.1 (by omega)
  have b3 : W0.cell? ⟨gp + 1, 3, none⟩ = some (.int .u8 (st 3)) := i1 T0.out.2.1 (by omega)
  have c0 : W0.cell? ⟨gp + 1 + 1, 0, none⟩ = some (.bool (v 0)) := i1 T0.out.2.2.1 (by omega)
  have c1 : W0.cell? ⟨gp + 1 + 1, 1, none⟩ = some (.bool (v 1)) := i1 T0.out.2.2.1 (by omega)
  have c2 : W0.cell? ⟨gp + 1 + 1, 2, none⟩ = some (.bool (v 2)) := i1 T0.out.2.2.1 (by omega)
  have c3 : W0.cell? ⟨gp + 1 + 1, 3, none⟩ = some (.bool (v 3)) := i1 T0.out.2.2.1 (by omega)
  have d0 : W0.cell? ⟨gp + 1 + 1 + 1, 0, none⟩ = some (.int .u16 (x 0)) := i1 T0.out.2.2.2.1 (by omega)
  have d1 : W0.cell? ⟨gp + 1 + 1 + 1, 1, none⟩ = some (.int .u16 (x 1)) := i1 T0.out.2.2.2.1 (by omega)
  have d2 : W0.cell? ⟨gp + 1 + 1 + 1, 2, none⟩ = some (.int .u16 (x 2)) := i1 T0.out.2.2.2.1 (by omega)
  have d3 : W0.cell? ⟨gp + 1 + 1 + 1, 3, none⟩ = some (.int .u16 (x 3)) := i1 T0.out.2.2.2.1 (by omega)
  go_wp2_with fail
  refine (bytes4 A n cp im mw _ _ _ _ _ _ _ _ _ _ _ _ _ _ _ _ _ hn).mono ?_
  rintro e W1 ⟨⟨bb, rfl⟩, hb1⟩
  clear a0 a1 a2 a3 b0 b1 b2 b3 c0 c1 c2 c3 d0 d1 d2 d3
  have T1 := Lib.hid (show Tab W1 gp 22 1 4 (fun i _ => .bool (p i)) ∧ Tab W1 (gp + 1) 23 1 4 (fun i _ => .int .u8 (st i)) ∧ Tab W1 (gp + 1 + 1) 22 1 4 (fun i _ => .bool (v i)) ∧ Tab W1 (gp + 1 + 1 + 1) 25 1 4 (fun i _ => .int .u16 (x i)) ∧ Below w.heap.size w W1 from by
    obtain ⟨t1, t2, t3, t4, t5⟩ := T0.out
    rw [← hgp] at t5
    exact ⟨t1.below hb1 t1.lt, t2.below hb1 t2.lt, t3.below hb1 t3.lt, t4.below hb1 t4.lt, t5.trans (hb1.mono t5.size)⟩)
  clear hb1 T0
  cases bb
  · go_wp2_with fail
    go_ret
    exact ⟨rfl, hgp ▸ T1.out.2.2.2.2⟩
  rcases (by omega : n = 0 ∨ 4096 < n ∨ (1 ≤ n ∧ n ≤ 4096)) with hn0 | hn0 | ⟨hn1, hn2⟩
  · have e0 : ((n : Int) == 0) = true := by rw [beq_iff_eq]; omega
    go_wp2_with fail
    go_ret
    exact ⟨rfl, hgp ▸ T1.out.2.2.2.2⟩
  · have e0 : ((n : Int) == 0) = false := by rw [beq_eq_false_iff_ne]; omega
    have e1 : (4096 : Int) < (n : Int) := by omega
    go_wp2_with fail
    go_ret
    exact ⟨rfl, hgp ▸ T1.out.2.2.2.2⟩
  have e0 : ((n : Int) == 0) = false := by rw [beq_eq_false_iff_ne]; omega
  have e1 : ¬ (4096 : Int) < (n : Int) := by omega
  go_wp2_with fail
  refine (copy5 A n cp z W1 (fun h => by
    obtain ⟨b, o, e, hl, hc⟩ := R.out h
    exact ⟨b, o, e, Nat.lt_of_lt_of_le hl T1.out.2.2.2.2.size, fun i hi => by rw [T1.out.2.2.2.2.cell hl]; exact hc i hi⟩) hn1 hn2).mono ?_
  rintro e W2 ⟨gl, rfl, tl, hb2, hge2⟩
  have T2 := Lib.hid (And.intro tl (And.intro hb2 hge2))
  clear tl hb2 hge2
  go_wp2_with fail
  refine (lay6 gl n z W2 T2.out.1 hn1 hn2).mono ?_
  rintro e W3 ⟨gd, gr, D, rfl, lu⟩
  obtain ⟨S, hS⟩ : ∃ S, S = CSf p v st x n := ⟨_, rfl⟩
  have HS := Lib.hid hS
  clear hS
  have M3 := Lib.hid (show MW w p v st x z n gp (gp + 1) (gp + 1 + 1) (gp + 1 + 1 + 1) gl gd gr W3.heap.size (W3.heap.size + 1) D S 0 ((W3.alloc (.cells #[.int .i64 0, .int .i64 0, .int .i64 0, .int .i64 0] 33)).alloc (.cells #[.pointer none, .string ⟨#[]⟩, .int .i32 0, .int .u32 0, .int .u16 0, .int .u8 0, .int .u8 0, .pointer none, .string ⟨#[]⟩, .int .i32 0, .int .u32 0, .int .u16 0, .int .u8 0, .int .u8 0, .string ⟨#[]⟩, .int .u8 0, .int .u32 0, .bool false, .pointer none, .string ⟨#[]⟩, .int .i32 0, .int .u32 0, .int .u16 0, .int .u8 0, .int .u8 0, .pointer none, .string ⟨#[]⟩, .int .i32 0, .int .u32 0, .int .u16 0, .int .u8 0, .int .u8 0, .string ⟨#[]⟩, .int .u8 0, .int .u32 0, .bool false, .pointer none, .string ⟨#[]⟩, .int .i32 0, .int .u32 0, .int .u16 0, .int .u8 0, .int .u8 0, .pointer none, .string ⟨#[]⟩, .int .i32 0, .int .u32 0, .int .u16 0, .int .u8 0, .int .u8 0, .string ⟨#[]⟩, .int .u8 0, .int .u32 0, .bool false, .pointer none, .string ⟨#[]⟩, .int .i32 0, .int .u32 0, .int .u16 0, .int .u8 0, .int .u8 0, .pointer none, .string ⟨#[]⟩, .int .i32 0, .int .u32 0, .int .u16 0, .int .u8 0, .int .u8 0, .string ⟨#[]⟩, .int .u8 0, .int .u32 0, .bool false] 47)) from by
    obtain ⟨t1, t2, t3, t4, t5⟩ := T1.out
    obtain ⟨u1, u2, u3⟩ := T2.out
    have hb : Below W1.heap.size W1 W3 := u2.trans (lu.b.mono u2.size)
    exact MW.start (t1.below hb t1.lt) (t2.below hb t2.lt) (t3.below hb t3.lt) (t4.below hb t4.lt) lu.l lu.d lu.r lu.a (t5.trans (hb.mono t5.size)))
  have N3 := Lib.hid (show NE w.heap.size gp (gp + 1) (gp + 1 + 1) (gp + 1 + 1 + 1) gl gd gr W3.heap.size (W3.heap.size + 1) from by
    obtain ⟨t1, t2, t3, t4, t5⟩ := T1.out
    obtain ⟨u1, u2, u3⟩ := T2.out
    have s1 := t4.lt
    have s2 := u1.lt
    have s3 := lu.b.size
    have s4 := lu.d.lt
    have s5 := lu.r.lt
    have s6 := u2.size
    have s7 := t5.size
    obtain ⟨s8, s9⟩ := lu.h
    have s10 := lu.n
    refine ⟨⟨?_, ?_, ?_, ?_, ?_, ?_, ?_, ?_⟩, ⟨?_, ?_, ?_, ?_, ?_, ?_, ?_, ?_⟩, ?_, ?_, ⟨?_, ?_, ?_, ?_, ?_⟩, ?_⟩ <;> omega)
  clear lu T1 T2
  have z47 := zero47
  go_wp2_with fail
  clear z47
  generalize (W3.alloc (.cells #[.int .i64 0, .int .i64 0, .int .i64 0, .int .i64 0] 33)).alloc (.cells #[.pointer none, .string ⟨#[]⟩, .int .i32 0, .int .u32 0, .int .u16 0, .int .u8 0, .int .u8 0, .pointer none, .string ⟨#[]⟩, .int .i32 0, .int .u32 0, .int .u16 0, .int .u8 0, .int .u8 0, .string ⟨#[]⟩, .int .u8 0, .int .u32 0, .bool false, .pointer none, .string ⟨#[]⟩, .int .i32 0, .int .u32 0, .int .u16 0, .int .u8 0, .int .u8 0, .pointer none, .string ⟨#[]⟩, .int .i32 0, .int .u32 0, .int .u16 0, .int .u8 0, .int .u8 0, .string ⟨#[]⟩, .int .u8 0, .int .u32 0, .bool false, .pointer none, .string ⟨#[]⟩, .int .i32 0, .int .u32 0, .int .u16 0, .int .u8 0, .int .u8 0, .pointer none, .string ⟨#[]⟩, .int .i32 0, .int .u32 0, .int .u16 0, .int .u8 0, .int .u8 0, .string ⟨#[]⟩, .int .u8 0, .int .u32 0, .bool false, .pointer none, .string ⟨#[]⟩, .int .i32 0, .int .u32 0, .int .u16 0, .int .u8 0, .int .u8 0, .pointer none, .string ⟨#[]⟩, .int .i32 0, .int .u32 0, .int .u16 0, .int .u8 0, .int .u8 0, .string ⟨#[]⟩, .int .u8 0, .int .u32 0, .bool false] 47) = W4 at *
  obtain ⟨gs, hgs⟩ : ∃ gs, gp + 1 = gs := ⟨_, rfl⟩
  obtain ⟨gv, hgv⟩ : ∃ gv, gs + 1 = gv := ⟨_, rfl⟩
  obtain ⟨gx, hgx⟩ : ∃ gx, gv + 1 = gx := ⟨_, rfl⟩
  obtain ⟨gi, hgi⟩ : ∃ gi, W3.heap.size = gi := ⟨_, rfl⟩
  obtain ⟨gk, hgk⟩ : ∃ gk, gi + 1 = gk := ⟨_, rfl⟩
  rw [hgs, hgv, hgx, hgi, hgk] at M3 N3
  simp only [hgs, hgv, hgx, hgi, hgk]
  clear hgs hgv hgx hgi hgk e0 e1
  go_loopw [20] (fun i wr => ∃ k : Nat, k ≤ 4 ∧ i = .int .i64 k ∧ Hid (MW w p v st x z n gp gs gv gx gl gd gr gi gk D S k wr)) (fun i _ => 4 - (intOf i).toNat)
  case atStart => exact ⟨0, by omega, rfl, M3⟩
  case round =>
    obtain ⟨k, hk, rfl, MK⟩ := hrel
    clear M3
    by_cases hlt : k < 4
    · have q0 : (0 : Int) ≤ (k : Int) := by omega
      have q1 : (k : Int) < 4 := by omega
      obtain ⟨xm, hxm⟩ : ∃ xm, x k % (n : Int) = xm := ⟨_, rfl⟩
      have hx0 := HX.out k hlt
      have hxt : (x k).tmod (n : Int) = xm := by rw [Int.tmod_eq_emod_of_nonneg hx0.1]; exact hxm
      have hxb : 0 ≤ xm ∧ xm < (n : Int) := by rw [← hxm]; exact ⟨Int.emod_nonneg _ (by omega), Int.emod_lt_of_pos _ (by omega)⟩
      have hxw : IntKind.i64.wrap (x k) = x k := by rw [IntKind.wrap_i64]; omega
      have hxv : IntKind.i64.wrap xm = xm := by rw [IntKind.wrap_i64]; omega
      have hxu : IntKind.u32.wrap xm = xm := by rw [IntKind.wrap_u32]; omega
      have hn0 : ((n : Int) == 0) = false := by rw [beq_eq_false_iff_ne]; omega
      have hn9 : ¬ (n : Int) = 0 := by omega
      obtain ⟨sm, hsm⟩ : ∃ sm, st k % 3 = sm := ⟨_, rfl⟩
      have hst0 := HST.out k hlt
      have hstt : (st k).tmod 3 = sm := by rw [Int.tmod_eq_emod_of_nonneg hst0.1]; exact hsm
      have hsb : 0 ≤ sm ∧ sm < 3 := by omega
      have x0 : wr.cell? ⟨gx, k, none⟩ = some (.int .u16 (x k)) := i1 MK.out.bx hlt
      have y0 : wr.cell? ⟨gi, k, none⟩ = some (.int .i64 0) := by
        rw [i1 MK.out.i hlt]
        unfold iF
        rw [if_neg (by omega)]
      have y1 : wr.frozen? ⟨gi, k, none⟩ = false := MK.out.i.frozen _
      have HXM := Lib.hid hxm
      have HSM := Lib.hid hsm
      clear hxm hsm
      go_upto_region 14 with fail
      clear x0 y0 y1 hxt hxw hn0 hn9
      have MJ := Lib.hid (show MI w p v st x z n gp gs gv gx gl gd gr gi gk D S k (wr.setCell ⟨gi, k, none⟩ (.int .i64 xm)) from HXM.out ▸ MK.out.index hlt N3.out)
      generalize wr.setCell ⟨gi, k, none⟩ (.int .i64 xm) = W5 at *
      clear MK
      have s0 : W5.cell? ⟨gs, k, none⟩ = some (.int .u8 (st k)) := i1 MJ.out.bs hlt
      have p0 : W5.cell? ⟨gp, k, none⟩ = some (.bool (p k)) := i1 MJ.out.bp hlt
      have v0 : W5.cell? ⟨gv, k, none⟩ = some (.bool (v k)) := i1 MJ.out.bv hlt
      cases hp : p k
      case' true =>
        rw [hp] at p0
        have HSK := Lib.hid (show cl (S k) = cl ⟨tS sm (v k), kS sm, tS sm (v k), kS sm, uS sm (v k), sm, xm, false⟩ from by
          rw [HS.out, ← HSM.out, ← HXM.out]
          exact congrArg cl (if_pos hp))
        clear hp
        obtain ⟨vk, hvk⟩ : ∃ vk, v k = vk := ⟨_, rfl⟩
        rw [hvk] at v0 HSK
        have HVK := Lib.hid hvk
        clear hvk
        go_wp2_with fail
        refine (st7 sm vk _ hsb.1 hsb.2).mono ?_
        rintro e W6 ⟨rfl, hb6⟩
        obtain ⟨Tm, hT⟩ : ∃ Tm, tS sm vk = Tm := ⟨_, rfl⟩
        obtain ⟨Km, hK⟩ : ∃ Km, kS sm = Km := ⟨_, rfl⟩
        obtain ⟨Um, hU⟩ : ∃ Um, uS sm vk = Um := ⟨_, rfl⟩
        rw [hT, hK, hU] at HSK
        rw [hT, hK]
        have UNIT := Lib.hid (fun W => hU ▸ unit9 sm vk W hsb.1 hsb.2)
        have M6 := Lib.hid (MJ.out.below hb6)
        clear hb6 MJ hT hK hU s0 p0 v0
        obtain ⟨Dk, hDk⟩ : ∃ Dk, Dk = cl (S k) := ⟨_, rfl⟩
        have hDl : Dk.length = 18 := by rw [hDk]; rfl
        have hD1 : ∀ u ∈ Dk, u.oneCell' = true := by rw [hDk]; exact cl_one _
        have CORN := Lib.hid (show ∀ W : World, Calls Try.prog 8 #[.agg #[.pointer none, .string Tm, .int .i32 0, .int .u32 0, .int .u16 0, .int .u8 Km, .int .u8 0], .agg #[.pointer none, .string Tm, .int .i32 0, .int .u32 0, .int .u16 0, .int .u8 Km, .int .u8 0], .int .u8 sm, .string Um, .int .u32 xm, .bool false] W fun e w' => e = .returned (.agg Dk.toArray) ∧ Below W.heap.size W w' from fun W => by
          have h := corner8 Tm Tm Um Km Km sm xm false W
          rw [hDk, HSK.out]
          exact h)
        have HDK := Lib.hid hDk
        clear hDk HSK
        go_upto_region 17 with fail
        have M7 := Lib.hid (show MI w p v st x z n gp gs gv gx gl gd gr gi gk D S k (W6.alloc (.cells #[.pointer none, .string Tm, .int .i32 0, .int .u32 0, .int .u16 0, .int .u8 Km, .int .u8 0] 41)) ∧ Blk (W6.alloc (.cells #[.pointer none, .string Tm, .int .i32 0, .int .u32 0, .int .u16 0, .int .u8 Km, .int .u8 0] 41)) W6.heap.size 41 #[.pointer none, .string Tm, .int .i32 0, .int .u32 0, .int .u16 0, .int .u8 Km, .int .u8 0] from ⟨M6.out.below ((Below.refl _ _).alloc (Nat.le_refl _) _), Blk.new _ _ _⟩)
        generalize (W6.alloc (.cells #[.pointer none, .string Tm, .int .i32 0, .int .u32 0, .int .u16 0, .int .u8 Km, .int .u8 0] 41)) = W7 at *
        have TBK := Lib.hid (show W6.heap.size ≠ gk from by have := M6.out.c.lt; omega)
        generalize W6.heap.size = tb at *
        clear M6
        have START := Lib.hid (show GJ W7 tb gv gi gk k S Tm Km xm vk W7.drew from ⟨(Kept.refl _ _ _).drew, M7.out.2.lt, M7.out.1.bv.lt, M7.out.1.i.lt, M7.out.1.c.lt, ⟨TBK.out, N3.out.2.1.2.2.1, N3.out.2.1.2.2.2.2.2.2.2⟩, M7.out.2.cell 0, M7.out.2.cell 1, M7.out.2.cell 2, M7.out.2.cell 3, M7.out.2.cell 4, M7.out.2.cell 5, M7.out.2.cell 6, HVK.out ▸ i1 M7.out.1.bv hlt, by
          have h := i1 M7.out.1.i hlt
          unfold iF at h
          rw [if_pos (by omega), HXM.out] at h
          exact h, ⟨_, M7.out.1.c, fun _ _ _ _ _ => rfl⟩⟩)
        have STEP := Lib.hid (fun w1 w2 (h : GJ W7 tb gv gi gk k S Tm Km xm vk w1) (hb : Below w1.heap.size w1 w2) => h.step hb)
        have FIN := Lib.hid (fun (W9 : World) (h : Kept W7.heap.size gk W7 W9 ∧ KG gk k S W9) => show MW w p v st x z n gp gs gv gx gl gd gr gi gk D S (k + 1) (W9.setCells gk (k * 18) Dk) from HDK.out ▸ M7.out.1.kept hlt N3.out h)
        have PUT := Lib.hid (fun (W9 : World) (h : GJ W7 tb gv gi gk k S Tm Km xm vk W9) => h.put hlt Dk hDl)
        clear M7
        go_region_held3 (fun w' => Kept W7.heap.size gk W7 w' ∧ tb < W7.heap.size ∧ gv < W7.heap.size ∧ gi < W7.heap.size ∧ gk < W7.heap.size ∧ (tb ≠ gk ∧ gv ≠ gk ∧ gi ≠ gk) ∧ w'.cell? ⟨tb, 0, none⟩ = some (.pointer none) ∧ w'.cell? ⟨tb, 1, none⟩ = some (.string Tm) ∧ w'.cell? ⟨tb, 2, none⟩ = some (.int .i32 0) ∧ w'.cell? ⟨tb, 3, none⟩ = some (.int .u32 0) ∧ w'.cell? ⟨tb, 4, none⟩ = some (.int .u16 0) ∧ w'.cell? ⟨tb, 5, none⟩ = some (.int .u8 Km) ∧ w'.cell? ⟨tb, 6, none⟩ = some (.int .u8 0) ∧ w'.cell? ⟨gv, k, none⟩ = some (.bool vk) ∧ w'.cell? ⟨gi, k, none⟩ = some (.int .i64 xm) ∧ KG gk k S w')
          (first | assumption | exact START.out | exact PUT.out _ (by assumption))
          (first
            | (go_at_call 9; refine (UNIT.out _).mono ?_; rintro e_ w9 ⟨rfl, hb9⟩; have hI := STEP.out _ _ (by assumption) hb9; clear hb9; unfold GJ at hI)
            | (go_at_call 8; refine (CORN.out _).mono ?_; rintro e_ w9 ⟨rfl, hb9⟩; have hI := STEP.out _ _ (by assumption) hb9; have hsto := GJ.sto hI hlt hDl hD1; have SAVE := Lib.hid (GJ.fin hI); clear hb9; unfold GJ at hI))
        all_goals
          go_wp2_with fail
          go_roundw
          case rel => exact ⟨k + 1, by omega, by go_num, Lib.hid (FIN.out _ SAVE.out)⟩
          case measure => simp [intOf]; omega
      case' false =>
        rw [hp] at p0
        have HSK := Lib.hid (show cl (S k) = cl C0 from by
          rw [HS.out]
          exact congrArg cl (if_neg (by rw [hp]; simp)))
        clear hp
        obtain ⟨Dk, hDk⟩ : ∃ Dk, Dk = cl (S k) := ⟨_, rfl⟩
        have hDl : Dk.length = 18 := by rw [hDk]; rfl
        have hD1 : ∀ u ∈ Dk, u.oneCell' = true := by rw [hDk]; exact cl_one _
        have CORN := Lib.hid (show ∀ W : World, Calls Try.prog 8 #[.agg #[.pointer none, .string ⟨#[]⟩, .int .i32 0, .int .u32 0, .int .u16 0, .int .u8 0, .int .u8 0], .agg #[.pointer none, .string ⟨#[]⟩, .int .i32 0, .int .u32 0, .int .u16 0, .int .u8 0, .int .u8 0], .int .u8 0, .string ⟨#[]⟩, .int .u32 0, .bool false] W fun e w' => e = .returned (.agg Dk.toArray) ∧ Below W.heap.size W w' from fun W => by
          have h := corner8 ⟨#[]⟩ ⟨#[]⟩ ⟨#[]⟩ 0 0 0 0 false W
          rw [hDk, HSK.out]
          exact h)
        have HDK := Lib.hid hDk
        clear hDk HSK
        go_wp2_with fail
        refine (CORN.out _).mono ?_
        rintro e W6 ⟨rfl, hb6⟩
        have M6 := Lib.hid (MJ.out.below hb6)
        have hsto := sto (D := Dk) (w := W6) (b := gk) (o := k * 18) (by rw [hDl]; exact M6.out.c.there hlt) hD1
        have FIN := Lib.hid (show MW w p v st x z n gp gs gv gx gl gd gr gi gk D S (k + 1) (W6.setCells gk (k * 18) Dk) from HDK.out ▸ M6.out.corner hlt N3.out)
        clear hb6 MJ M6 CORN
        go_wp2_with fail
        go_roundw
        case rel => exact ⟨k + 1, by omega, by go_num, FIN⟩
        case measure => simp [intOf]; omega
    · have hk4 : k = 4 := by omega
      have M4 := Lib.hid (show MW w p v st x z n gp gs gv gx gl gd gr gi gk D S 4 wr from hk4 ▸ MK.out)
      have q0 : ¬ (k : Int) < 4 := by omega
      clear MK hk4 hlt hk
      obtain ⟨C0, h0⟩ : ∃ C, C = cl (S 0) := ⟨_, rfl⟩
      obtain ⟨C1, h1⟩ : ∃ C, C = cl (S 1) := ⟨_, rfl⟩
      obtain ⟨C2, h2⟩ : ∃ C, C = cl (S 2) := ⟨_, rfl⟩
      obtain ⟨C3, h3⟩ : ∃ C, C = cl (S 3) := ⟨_, rfl⟩
      have r0 : wr.rangeAt gk 0 C0 := by rw [h0]; exact kF_range (k := 0) M4.out.c (by omega)
      have r1 : wr.rangeAt gk 18 C1 := by rw [h1]; exact kF_range (k := 1) M4.out.c (by omega)
      have r2 : wr.rangeAt gk 36 C2 := by rw [h2]; exact kF_range (k := 2) M4.out.c (by omega)
      have r3 : wr.rangeAt gk 54 C3 := by rw [h3]; exact kF_range (k := 3) M4.out.c (by omega)
      have j0 : (Try.prog.info? 46).map (·.size) = some C0.length := by rw [h0]; kernel_rfl
      have j1 : (Try.prog.info? 46).map (·.size) = some C1.length := by rw [h1]; kernel_rfl
      have j2 : (Try.prog.info? 46).map (·.size) = some C2.length := by rw [h2]; kernel_rfl
      have j3 : (Try.prog.info? 46).map (·.size) = some C3.length := by rw [h3]; kernel_rfl
      have TRK := Lib.hid (show ∀ W : World, Calls Try.prog 10 #[.agg C0.toArray, .agg C1.toArray, .agg C2.toArray, .agg C3.toArray, .bool im] W fun e w' => ∃ g, e = .returned (.pointer (some ⟨g, 0, none⟩)) ∧ Tk w' g S im ∧ Below W.heap.size W w' ∧ W.heap.size ≤ g from fun W => by rw [h0, h1, h2, h3]; exact tracker10 S im W)
      clear h0 h1 h2 h3
      go_wp2_with (first
        | (refine wpList_load_mid rfl 46 _ rfl gk 0 rfl C0 _ r0 Try.underlying46 rfl j0 ?_)
        | (refine wpList_load_mid rfl 46 _ rfl gk 18 rfl C1 _ r1 Try.underlying46 rfl j1 ?_)
        | (refine wpList_load_mid rfl 46 _ rfl gk 36 rfl C2 _ r2 Try.underlying46 rfl j2 ?_)
        | (refine wpList_load_mid rfl 46 _ rfl gk 54 rfl C3 _ r3 Try.underlying46 rfl j3 ?_))
      refine (TRK.out _).mono ?_
      rintro e W5 ⟨g, rfl, tk, hb5, hge⟩
      have GRR := Lib.hid (show gr < W5.heap.size from (M4.out.below hb5).r.lt)
      have M5 := Lib.hid (show MW w p v st x z n gp gs gv gx gl gd gr gi gk D S 4 (W5.alloc (.cells #[.int .i32 5, .int .i32 13] 54)) ∧ Tk (W5.alloc (.cells #[.int .i32 5, .int .i32 13] 54)) g S im ∧ Blk (W5.alloc (.cells #[.int .i32 5, .int .i32 13] 54)) W5.heap.size 54 #[.int .i32 5, .int .i32 13] ∧ g ≠ gr from ⟨(M4.out.below hb5).below ((Below.refl _ _).alloc (Nat.le_refl _) _), tk.alloc _, Blk.new _ _ _, by have := M4.out.r.lt; omega⟩)
      clear r0 r1 r2 r3 j0 j1 j2 j3 TRK tk hb5 hge M4
      go_wp2_with fail
      generalize W5.alloc (.cells #[.int .i32 5, .int .i32 13] 54) = W6 at *
      generalize W5.heap.size = gR at *
      cases hFF : fires S
      case false =>
        have hF := Lib.hid hFF
        refine (wrap11 (R := fun W e w' => Below W.heap.size W w') (fun W hb _ => comp_no g (some ⟨gr, 0, none⟩) n n S im 5 13 mw W hFF (M5.out.2.1.below hb))).mono ?_
        rintro e W9 ⟨rfl, W, hbW, -, hb9⟩
        have M9 := Lib.hid (M5.out.1.below (hbW.trans (hb9.mono hbW.size)))
        clear hbW hb9 M5 hFF
        go_upto_region 22 with fail
        have a0 : W9.cell? ⟨gp, 0, none⟩ = some (.bool (p 0)) := i1 M9.out.bp (by omega)
        have a1 : W9.cell? ⟨gp, 1, none⟩ = some (.bool (p 1)) := i1 M9.out.bp (by omega)
        have a2 : W9.cell? ⟨gp, 2, none⟩ = some (.bool (p 2)) := i1 M9.out.bp (by omega)
        have a3 : W9.cell? ⟨gp, 3, none⟩ = some (.bool (p 3)) := i1 M9.out.bp (by omega)
        go_cut [25] from 116 to 129 (fun s wx => s = .bool (okk p v st 0) ∧ wx = W9)
        case first =>
          obtain ⟨b0, H0⟩ : ∃ b, Hid (p 0 = b) := ⟨_, Lib.hid rfl⟩
          rw [H0.out] at a0
          cases b0
          case false =>
            go_wp2
            go_meet
            exact ⟨by unfold okk; rw [H0.out]; rfl, rfl⟩
          case true =>
            obtain ⟨b1, H1⟩ : ∃ b, Hid (p 1 = b) := ⟨_, Lib.hid rfl⟩
            rw [H1.out] at a1
            cases b1
            case false =>
              go_wp2
              go_meet
              exact ⟨by unfold okk; rw [H0.out, H1.out]; rfl, rfl⟩
            case true =>
              obtain ⟨b2, H2⟩ : ∃ b, Hid (p 2 = b) := ⟨_, Lib.hid rfl⟩
              rw [H2.out] at a2
              cases b2
              case false =>
                go_wp2
                go_meet
                exact ⟨by unfold okk; rw [H0.out, H1.out, H2.out]; rfl, rfl⟩
              case true =>
                obtain ⟨b3, H3⟩ : ∃ b, Hid (p 3 = b) := ⟨_, Lib.hid rfl⟩
                rw [H3.out] at a3
                cases b3
                case false =>
                  go_wp2
                  go_meet
                  exact ⟨by unfold okk; rw [H0.out, H1.out, H2.out, H3.out]; rfl, rfl⟩
                case true =>
                  go_wp2
                  go_meet
                  exact ⟨by unfold okk; rw [H0.out, H1.out, H2.out, H3.out]; rfl, rfl⟩
        case rest =>
          obtain ⟨rfl, hw⟩ := hcut
          subst hw
          clear a0 a1 a2 a3
          obtain ⟨sz, hsz⟩ : ∃ sz, st 0 % 3 = sz := ⟨_, rfl⟩
          have hs00 := HST.out 0 (by omega)
          have hszt : (st 0).tmod 3 = sz := by rw [Int.tmod_eq_emod_of_nonneg hs00.1]; exact hsz
          have HSZ := Lib.hid hsz
          clear hsz
          have b0 : wc.cell? ⟨gs, 0, none⟩ = some (.int .u8 (st 0)) := i1 M9.out.bs (by omega)
          go_wp2_with fail
          clear b0 hszt hs00
          obtain ⟨W9, rfl⟩ : ∃ W9 : World, W9 = wc := ⟨_, rfl⟩
          go_loopw [25, 27] (fun o i wr => ∃ j : Nat, 1 ≤ j ∧ j ≤ 4 ∧ o = .bool (okk p v st (j - 1)) ∧ i = .int .i64 j ∧ Hid (Below W9.heap.size W9 wr)) (fun _ i _ => 4 - (intOf i).toNat)
          case atStart => exact ⟨1, by omega, by omega, rfl, rfl, Lib.hid (Below.refl _ _)⟩
          case round =>
            obtain ⟨j, hj1, hj4, rfl, rfl, RB⟩ := hrel
            obtain ⟨okj, hokj⟩ : ∃ okj, okk p v st (j - 1) = okj := ⟨_, rfl⟩
            have HOK := Lib.hid hokj
            rw [hokj]
            clear hokj
            by_cases hlt : j < 4
            · have q0 : (0 : Int) ≤ (j : Int) := by omega
              have q1 : (j : Int) < 4 := by omega
              obtain ⟨sj, hsj⟩ : ∃ sj, st j % 3 = sj := ⟨_, rfl⟩
              have hs0 := HST.out j hlt
              have hsjt : (st j).tmod 3 = sj := by rw [Int.tmod_eq_emod_of_nonneg hs0.1]; exact hsj
              have GD := Lib.hid (show okk p v st j = (okj && ((sj == sz) && !((sz == 1) && (v j != v 0)))) from by
                rw [← hsj, ← HSZ.out, ← HOK.out]
                obtain ⟨i, rfl⟩ : ∃ i, j = i + 1 := ⟨j - 1, by omega⟩
                rfl)
              clear hsj
              have MR := Lib.hid (M9.out.below RB.out)
              have b0 : wr.cell? ⟨gs, j, none⟩ = some (.int .u8 (st j)) := i1 MR.out.bs hlt
              have v0 : wr.cell? ⟨gv, j, none⟩ = some (.bool (v j)) := i1 MR.out.bv hlt
              have v1 : wr.cell? ⟨gv, 0, none⟩ = some (.bool (v 0)) := i1 MR.out.bv (by omega)
              clear MR
              obtain ⟨vj, HVJ⟩ : ∃ b, Hid (v j = b) := ⟨_, Lib.hid rfl⟩
              obtain ⟨vz, HVZ⟩ : ∃ b, Hid (v 0 = b) := ⟨_, Lib.hid rfl⟩
              rw [HVJ.out] at v0 GD
              rw [HVZ.out] at v1 GD
              have RD := Lib.hid (fun (W : World) (h : W = wr ∨ W = wr.drew) => show Below W9.heap.size W9 W from by
                rcases h with rfl | rfl
                · exact RB.out
                · exact RB.out.drew)
              have E1 := Lib.hid (show (sj == sz) = !(sj != sz) by cases hq : (sj == sz) <;> simp [bne, hq])
              cases h1 : (sj != sz) <;> cases h2 : (sz == 1) <;> cases vj <;> cases vz
              all_goals
                go_wp2_with fail
                try (go_region; go_wp2_with fail)
                first
                  | (go_roundw
                     case rel => exact ⟨j + 1, by omega, by omega, by rw [Nat.add_sub_cancel, GD.out, E1.out, h1, h2]; cases okj <;> rfl, by go_num, Lib.hid (RD.out _ (by first | exact .inl rfl | exact .inr rfl))⟩
                     case measure => simp [intOf]; omega)
                  | exact ⟨⟨j + 1, by omega, by omega, by rw [Nat.add_sub_cancel, GD.out, E1.out, h1, h2]; cases okj <;> rfl, by go_num, Lib.hid (RD.out _ (by first | exact .inl rfl | exact .inr rfl))⟩, by simp [intOf]; omega⟩
            · have hj : j = 4 := by omega
              have O3 := Lib.hid (show okk p v st 3 = okj from by have := HOK.out; rw [hj] at this; exact this)
              have q0 : ¬ (j : Int) < 4 := by omega
              have MR := Lib.hid (M9.out.below RB.out)
              clear hj hlt hj1 hj4 HOK
              have OKN := Lib.hid (show (okj && !(sz == 2)) = false from by
                have h := okF_eq p v st x n
                rw [← HS.out, hF.out] at h
                unfold okF at h
                rw [O3.out, HSZ.out] at h
                exact h)
              cases h4 : (sz == 2)
              case' false =>
                have e : okj = false := by
                  have := OKN.out
                  rw [h4] at this
                  simpa using this
                subst e
                go_wp2_with fail
              case' true =>
                go_wp2_with fail
              all_goals
                go_loopw [28] (fun i wx => ∃ q : Nat, q ≤ n ∧ i = .int .i64 q ∧ Hid (MW w p v st x z n gp gs gv gx gl gd gr gi gk D S 4 wx)) (fun i _ => n - (intOf i).toNat)
                case atStart => exact ⟨0, Nat.zero_le _, rfl, MR⟩
                case round =>
                  obtain ⟨q, hq, rfl, MQ⟩ := hrel
                  clear MR
                  by_cases hqt : q < n
                  · have q1 : (q : Int) < (n : Int) := by omega
                    have q2 : (0 : Int) ≤ (q : Int) := by omega
                    go_wp2_with fail
                    refine (kept12 gr gd gl _ _ _ _ _ _ q (D q) (z q) _ (MQ.out.keeps hqt) hqt hqt hqt).mono ?_
                    rintro e w9 ⟨rfl, hb9⟩
                    have LN := Lib.hid (MQ.out.below hb9)
                    clear hb9 MQ
                    go_wp2_with fail
                    go_roundw
                    case rel => exact ⟨q + 1, by omega, by go_num, LN⟩
                    case measure => simp [intOf]; omega
                  · have q1 : ¬ (q : Int) < (n : Int) := by omega
                    go_wp2_with fail
                    go_ret
                    exact ⟨rfl, hgp ▸ MQ.out.b⟩
      case true =>
        have hF := Lib.hid hFF
        have HALL := Lib.hid (show ∀ i, i < 4 → p i = true ∧ (S i).k = kS (st 0 % 3) ∧ (S i).t = tS (st 0 % 3) (v 0) ∧ (S i).r = x i % n from by
          have h := hFF
          rw [HS.out] at h ⊢
          exact fires_all h)
        have hR : ∀ s, s < 4 → (S s).r = (((x s % (n : Int)).toNat : Nat) : Int) := fun s hs => by
          rw [(HALL.out s hs).2.2.2, Int.toNat_of_nonneg (Int.emod_nonneg _ (by omega))]
        have hRn : ∀ s, s < 4 → (x s % (n : Int)).toNat < n := fun s hs => by
          have := Int.emod_lt_of_pos (x s) (show (0 : Int) < (n : Int) by omega)
          omega
        have hE : ∀ i, i < 4 → (S i).k2 = (S i).k ∧ (S i).t2 = (S i).t := fun i hi => by
          rw [HS.out]
          unfold CSf
          split <;> exact ⟨rfl, rfl⟩
        refine (wrap11 (R := fun W e w' => CYP gr n S im mw D z (fun s => (x s % (n : Int)).toNat) W w') (fun W hb _ => (comp_yes g gr n n S im 5 13 mw (fun i => some (D i)) z W hFF hE (M5.out.2.1.below hb) (rF_rc (M5.out.1.r.below hb M5.out.1.r.lt)) M5.out.2.2.2 _ hR hRn).mono fun e w' h => h)).mono ?_
        rintro e W9 ⟨rfl, W, hbW, -, hcy⟩
        obtain ⟨dd, tg, L3, T3, K3, hmy⟩ := MY.of (M5.out.1.below hbW) N3.out (M5.out.2.2.1.below hbW M5.out.2.2.1.lt) (by have := M5.out.2.2.1.lt; have := hbW.size; have := GRR.out; omega) (by have := M5.out.2.2.1.lt; have := hbW.size; omega) (fun i hi => (HALL.out i hi).2.1) (fun i hi => (HALL.out i hi).2.2.1) (hRn 3 (by omega)) hcy
        obtain ⟨r3, hr3⟩ : ∃ r3, (x 3 % (n : Int)).toNat = r3 := ⟨_, rfl⟩
        rw [hr3] at hmy
        have R3L := Lib.hid (show r3 < n from hr3 ▸ hRn 3 (by omega))
        have M9 := Lib.hid hmy
        clear hbW hcy M5 hFF hR hRn hE hmy hr3
        go_upto_region 22 with fail
        have a0 : W9.cell? ⟨gp, 0, none⟩ = some (.bool (p 0)) := i1 M9.out.bp (by omega)
        have a1 : W9.cell? ⟨gp, 1, none⟩ = some (.bool (p 1)) := i1 M9.out.bp (by omega)
        have a2 : W9.cell? ⟨gp, 2, none⟩ = some (.bool (p 2)) := i1 M9.out.bp (by omega)
        have a3 : W9.cell? ⟨gp, 3, none⟩ = some (.bool (p 3)) := i1 M9.out.bp (by omega)
        go_cut [25] from 116 to 129 (fun s wx => s = .bool (okk p v st 0) ∧ wx = W9)
        case first =>
          obtain ⟨b0, H0⟩ : ∃ b, Hid (p 0 = b) := ⟨_, Lib.hid rfl⟩
          rw [H0.out] at a0
          cases b0
          case false =>
            go_wp2
            go_meet
            exact ⟨by unfold okk; rw [H0.out]; rfl, rfl⟩
          case true =>
            obtain ⟨b1, H1⟩ : ∃ b, Hid (p 1 = b) := ⟨_, Lib.hid rfl⟩
            rw [H1.out] at a1
            cases b1
            case false =>
              go_wp2
              go_meet
              exact ⟨by unfold okk; rw [H0.out, H1.out]; rfl, rfl⟩
            case true =>
              obtain ⟨b2, H2⟩ : ∃ b, Hid (p 2 = b) := ⟨_, Lib.hid rfl⟩
              rw [H2.out] at a2
              cases b2
              case false =>
                go_wp2
                go_meet
                exact ⟨by unfold okk; rw [H0.out, H1.out, H2.out]; rfl, rfl⟩
              case true =>
                obtain ⟨b3, H3⟩ : ∃ b, Hid (p 3 = b) := ⟨_, Lib.hid rfl⟩
                rw [H3.out] at a3
                cases b3
                case false =>
                  go_wp2
                  go_meet
                  exact ⟨by unfold okk; rw [H0.out, H1.out, H2.out, H3.out]; rfl, rfl⟩
                case true =>
                  go_wp2
                  go_meet
                  exact ⟨by unfold okk; rw [H0.out, H1.out, H2.out, H3.out]; rfl, rfl⟩
        case rest =>
          obtain ⟨rfl, hw⟩ := hcut
          subst hw
          clear a0 a1 a2 a3
          obtain ⟨sz, hsz⟩ : ∃ sz, st 0 % 3 = sz := ⟨_, rfl⟩
          have hs00 := HST.out 0 (by omega)
          have hszt : (st 0).tmod 3 = sz := by rw [Int.tmod_eq_emod_of_nonneg hs00.1]; exact hsz
          have HSZ := Lib.hid hsz
          clear hsz
          have b0 : wc.cell? ⟨gs, 0, none⟩ = some (.int .u8 (st 0)) := i1 M9.out.bs (by omega)
          go_wp2_with fail
          clear b0 hszt hs00
          obtain ⟨W9, rfl⟩ : ∃ W9 : World, W9 = wc := ⟨_, rfl⟩
          go_loopw [25, 27] (fun o i wr => ∃ j : Nat, 1 ≤ j ∧ j ≤ 4 ∧ o = .bool (okk p v st (j - 1)) ∧ i = .int .i64 j ∧ Hid (Below W9.heap.size W9 wr)) (fun _ i _ => 4 - (intOf i).toNat)
          case atStart => exact ⟨1, by omega, by omega, rfl, rfl, Lib.hid (Below.refl _ _)⟩
          case round =>
            obtain ⟨j, hj1, hj4, rfl, rfl, RB⟩ := hrel
            obtain ⟨okj, hokj⟩ : ∃ okj, okk p v st (j - 1) = okj := ⟨_, rfl⟩
            have HOK := Lib.hid hokj
            rw [hokj]
            clear hokj
            by_cases hlt : j < 4
            · have q0 : (0 : Int) ≤ (j : Int) := by omega
              have q1 : (j : Int) < 4 := by omega
              obtain ⟨sj, hsj⟩ : ∃ sj, st j % 3 = sj := ⟨_, rfl⟩
              have hs0 := HST.out j hlt
              have hsjt : (st j).tmod 3 = sj := by rw [Int.tmod_eq_emod_of_nonneg hs0.1]; exact hsj
              have GD := Lib.hid (show okk p v st j = (okj && ((sj == sz) && !((sz == 1) && (v j != v 0)))) from by
                rw [← hsj, ← HSZ.out, ← HOK.out]
                obtain ⟨i, rfl⟩ : ∃ i, j = i + 1 := ⟨j - 1, by omega⟩
                rfl)
              clear hsj
              have MR := Lib.hid (M9.out.below RB.out)
              have b0 : wr.cell? ⟨gs, j, none⟩ = some (.int .u8 (st j)) := i1 MR.out.bs hlt
              have v0 : wr.cell? ⟨gv, j, none⟩ = some (.bool (v j)) := i1 MR.out.bv hlt
              have v1 : wr.cell? ⟨gv, 0, none⟩ = some (.bool (v 0)) := i1 MR.out.bv (by omega)
              clear MR
              obtain ⟨vj, HVJ⟩ : ∃ b, Hid (v j = b) := ⟨_, Lib.hid rfl⟩
              obtain ⟨vz, HVZ⟩ : ∃ b, Hid (v 0 = b) := ⟨_, Lib.hid rfl⟩
              rw [HVJ.out] at v0 GD
              rw [HVZ.out] at v1 GD
              have RD := Lib.hid (fun (W : World) (h : W = wr ∨ W = wr.drew) => show Below W9.heap.size W9 W from by
                rcases h with rfl | rfl
                · exact RB.out
                · exact RB.out.drew)
              have E1 := Lib.hid (show (sj == sz) = !(sj != sz) by cases hq : (sj == sz) <;> simp [bne, hq])
              cases h1 : (sj != sz) <;> cases h2 : (sz == 1) <;> cases vj <;> cases vz
              all_goals
                go_wp2_with fail
                try (go_region; go_wp2_with fail)
                first
                  | (go_roundw
                     case rel => exact ⟨j + 1, by omega, by omega, by rw [Nat.add_sub_cancel, GD.out, E1.out, h1, h2]; cases okj <;> rfl, by go_num, Lib.hid (RD.out _ (by first | exact .inl rfl | exact .inr rfl))⟩
                     case measure => simp [intOf]; omega)
                  | exact ⟨⟨j + 1, by omega, by omega, by rw [Nat.add_sub_cancel, GD.out, E1.out, h1, h2]; cases okj <;> rfl, by go_num, Lib.hid (RD.out _ (by first | exact .inl rfl | exact .inr rfl))⟩, by simp [intOf]; omega⟩
            · have hj : j = 4 := by omega
              have O3 := Lib.hid (show okk p v st 3 = okj from by have := HOK.out; rw [hj] at this; exact this)
              have q0 : ¬ (j : Int) < 4 := by omega
              have MR := Lib.hid (M9.out.below RB.out)
              clear hj hlt hj1 hj4 HOK
              have OKY := Lib.hid (show okj = true ∧ (sz == 2) = false from by
                have h := okF_eq p v st x n
                rw [← HS.out, hF.out] at h
                unfold okF at h
                rw [O3.out, HSZ.out] at h
                simpa using h)
              have h4 := OKY.out.2
              have e := OKY.out.1
              subst e
              obtain ⟨vz, HVZ⟩ : ∃ b, Hid (v 0 = b) := ⟨_, Lib.hid rfl⟩
              have i3 : wr.cell? ⟨gi, 3, none⟩ = some (.int .i64 (r3 : Int)) := MR.out.i
              have u0 : wr.cell? ⟨gr, r3 * 2, none⟩ = some (.iface 57 (.pointer (some ⟨dd, 0, none⟩))) := MR.out.r0
              have u1 : wr.cell? ⟨gr, r3 * 2 + 1, none⟩ = some (.int .i32 L3) := MR.out.r1
              have b3 : (0 : Int) ≤ (r3 : Int) := by omega
              have b4 : (r3 : Int) < (n : Int) := by have := R3L.out; omega
              go_wp2_with fail
              refine (decl13 dd L3 _).mono ?_
              rintro e W10 ⟨rfl, hb10⟩
              have N10 := Lib.hid (MR.out.below hb10)
              clear hb10 MR i3 u0 u1
              have i3 : W10.cell? ⟨gi, 3, none⟩ = some (.int .i64 (r3 : Int)) := N10.out.i
              have w3 : W10.cell? ⟨gd, r3, none⟩ = some (.pointer (some ⟨D r3, 0, none⟩)) := N10.out.d
              have g0 : W10.cell? ⟨gR, 0, none⟩ = some (.int .i32 5) := N10.out.g.cell 0
              have g1 : W10.cell? ⟨gR, 1, none⟩ = some (.int .i32 13) := N10.out.g.cell 1
              have eqo : (binOp .eql 57 (.pointer (some ⟨dd, 0, none⟩)) (.pointer (some ⟨D r3, 0, none⟩))).run Try.prog W10 = .ok (.bool false) W10 := N10.out.other
              go_wp2_with fail
              refine (declIs14 dd 5 13 im _ _ N10.out.e).mono ?_
              rintro e W11 ⟨rfl, hb11⟩
              have N11 := Lib.hid (N10.out.below hb11)
              clear hb11 N10 i3 w3 g0 g1 eqo
              have v0 : W11.cell? ⟨gv, 0, none⟩ = some (.bool vz) := HVZ.out ▸ i1 N11.out.bv (by omega)
              go_wp2_with fail
              refine (st7 sz vz _ (by have := HSZ.out; omega) (by have := HSZ.out; omega)).mono ?_
              rintro e W12 ⟨rfl, hb12⟩
              have HK := Lib.hid (show K3 = kS sz ∧ T3 = tS sz vz from ⟨by rw [N11.out.k, HSZ.out], by rw [N11.out.t, HSZ.out, HVZ.out]⟩)
              rw [← HK.out.1, ← HK.out.2]
              have N12 := Lib.hid (show MY w p v st x n gp gs gv gi gd gr gR tg dd r3 L3 T3 K3 im D (W12.alloc (.cells #[.pointer none, .string T3, .int .i32 0, .int .u32 0, .int .u16 0, .int .u8 K3, .int .u8 0] 41)) ∧ Blk (W12.alloc (.cells #[.pointer none, .string T3, .int .i32 0, .int .u32 0, .int .u16 0, .int .u8 K3, .int .u8 0] 41)) W12.heap.size 41 #[.pointer none, .string T3, .int .i32 0, .int .u32 0, .int .u16 0, .int .u8 K3, .int .u8 0] from ⟨(N11.out.below hb12).below ((Below.refl _ _).alloc (Nat.le_refl _) _), Blk.new _ _ _⟩)
              clear hb12 N11 v0
              go_upto_region 44 with fail
              generalize W12.alloc (.cells #[.pointer none, .string T3, .int .i32 0, .int .u32 0, .int .u16 0, .int .u8 K3, .int .u8 0] 41) = W13 at *
              have f1 : W13.cell? ⟨dd, 1, none⟩ = some (.slice (some ⟨tg, 0, none⟩) 1 4) := N12.out.1.e.cell 1
              have f2 : W13.cell? ⟨tg, 1, none⟩ = some (.string T3) := N12.out.1.t1
              have f3 : W13.cell? ⟨tg, 5, none⟩ = some (.int .u8 K3) := N12.out.1.t5
              have f4 : W13.cell? ⟨W12.heap.size, 1, none⟩ = some (.string T3) := N12.out.2.cell 1
              have f5 : W13.cell? ⟨W12.heap.size, 5, none⟩ = some (.int .u8 K3) := N12.out.2.cell 5
              go_region
              go_wp2_with fail
              go_ret
              exact ⟨by simp, hgp ▸ N12.out.1.b.drew⟩
end Go.Proofs.Ytnolnlekdlfeaaa.ZT
