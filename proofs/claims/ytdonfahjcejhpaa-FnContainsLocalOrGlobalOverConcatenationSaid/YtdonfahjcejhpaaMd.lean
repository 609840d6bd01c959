/- zzObsCompound of n011_210, walked. -/
import Derived.Test.YtdonfahjcejhpaaMc
namespace Go.Proofs.Ytdonfahjcejhpaa.MG
open Go.RowKit Go.Proofs.Ytdonfahjcejhpaa.TB
set_option linter.unusedVariables false
theorem info9 : (Try.prog.info? 9).map (fun i => (i.zero, i.size, i.bytes)) = some (some (.string ByteArray.empty), 1, 16) := by kernel_rfl
/-- The cells of n strings. -/
def sls (T : Nat → ByteArray) : Nat → List Value
  | 0 => []
  | k + 1 => sls T k ++ [.string (T k)]
theorem sls_len (T : Nat → ByteArray) (n : Nat) : (sls T n).length = n := by
  induction n with
  | zero => rfl
  | succ k ih => simp [sls, ih]
theorem sls_get (T : Nat → ByteArray) {n i : Nat} (h : i < n) : (sls T n)[i]? = some (.string (T i)) := by
  induction n with
  | zero => omega
  | succ k ih =>
    have hl := sls_len T k
    simp only [sls]
    by_cases e : i = k
    · subst e
      rw [List.getElem?_append_right (by omega)]; simp [hl]
    · rw [List.getElem?_append_left (by omega)]; exact ih (by omega)
/-- The text of a type's code, or nothing. -/
def tt (t : Int) : ByteArray := if t = 0 then ⟨#[]⟩ else lt t
def dots (S : Nat → ByteArray) : Nat → ByteArray := fun i => dot (S i)
theorem Subs.cells {base n : Nat} {w : World} {v : Value} {S : Nat → ByteArray} (h : Subs base w v n S) (hn : 0 < n) : ∃ (gs cap : Nat) (P : Nat → Nat), v = .slice (some ⟨gs, 0, none⟩) n cap ∧ gs < w.heap.size ∧ n ≤ cap ∧ ∀ i, i < n →
    w.cell? ⟨gs, i * 3, none⟩ = some (.iface 78 (.pointer (some ⟨P i, 0, none⟩))) ∧ w.cell? ⟨gs, i * 3 + 1, none⟩ = some (.int .i32 0) ∧ w.cell? ⟨gs, i * 3 + 2, none⟩ = some (.int .i32 0) ∧ Blk w (P i) 81 #[.string (S i), .slice none 0 0, .bool false] := by
  obtain ⟨P, h1, h2⟩ := h
  obtain ⟨gs, cap, rfl, -, hlt⟩ := h1.form hn
  have hc : n ≤ cap := by
    rcases h1.2 with ⟨h, -⟩ | ⟨g, c, cur, h, -, -, hc, -⟩
    · cases h
    · simp only [Value.slice.injEq] at h; omega
  refine ⟨gs, cap, P, rfl, hlt, hc, fun i hi => ?_⟩
  obtain ⟨e0, e1, e2⟩ := els_get P hi
  refine ⟨?_, ?_, ?_, h2 i hi⟩
  · rw [h1.cellAt _ (by omega), e0]
  · rw [h1.cellAt _ (by omega), e1]
  · rw [h1.cellAt _ (by omega), e2]
/-- The state of the observing loop. -/
structure LO (w : World) (tp v nv : Value) (l cB m : Int) (we : Bool) (ty : ByteArray) (S : Nat → ByteArray) (k : Nat) (gv : Value) (wr : World) : Prop where
  x : Blk wr w.heap.size 46 #[tp, v, nv, .int .i32 l, .int .u8 cB, .bool we]
  r : Blk wr (w.heap.size + 1) 49 #[.int .u8 0, .string ⟨#[]⟩, .int .i64 0, .slice none 0 0, .bool false]
  t : Blk wr (w.heap.size + 1 + 1) 49 #[.int .u8 cB, .string ty, .int .i64 m, gv, .bool we]
  s : wr.ownsRow w.heap.size 9 1 gv k (sls (dots S) k)
  b : Below w.heap.size w wr
section
variable {w wr w9 w1 : World} {tp v nv : Value} {l cB m : Int} {we : Bool} {ty : ByteArray} {S : Nat → ByteArray} {k : Nat} {gv : Value}
theorem LO.below (h : LO w tp v nv l cB m we ty S k gv wr) (hb : Below wr.heap.size wr w9) : LO w tp v nv l cB m we ty S k gv w9 :=
  ⟨h.x.below hb h.x.lt, h.r.below hb h.r.lt, h.t.below hb h.t.lt, own_below h.s hb, h.b.trans (hb.mono h.b.size)⟩
theorem LO.start (w : World) (tp v nv : Value) (l cB m : Int) (we : Bool) (ty : ByteArray) (S : Nat → ByteArray) : LO w tp v nv l cB m we ty S 0 (.slice none 0 0)
    (((w.alloc (.cells #[tp, v, nv, .int .i32 l, .int .u8 cB, .bool we] 46)).alloc (.cells #[.int .u8 0, .string ⟨#[]⟩, .int .i64 0, .slice none 0 0, .bool false] 49)).alloc (.cells #[.int .u8 cB, .string ty, .int .i64 m, .slice none 0 0, .bool we] 49)) := by
  refine ⟨((Blk.new w 46 _).alloc _).alloc _, ?_, ?_, World.ownsRow_nil _ _ _ _, (((Below.refl _ _).alloc (Nat.le_refl _) _).alloc (by simp) _).alloc (by simp; omega) _⟩
  · have h := (Blk.new (w.alloc (.cells #[tp, v, nv, .int .i32 l, .int .u8 cB, .bool we] 46)) 49 #[.int .u8 0, .string ⟨#[]⟩, .int .i64 0, .slice none 0 0, .bool false]).alloc (.cells #[.int .u8 cB, .string ty, .int .i64 m, .slice none 0 0, .bool we] 49)
    simpa using h
  · have h := Blk.new ((w.alloc (.cells #[tp, v, nv, .int .i32 l, .int .u8 cB, .bool we] 46)).alloc (.cells #[.int .u8 0, .string ⟨#[]⟩, .int .i64 0, .slice none 0 0, .bool false] 49)) 49 #[.int .u8 cB, .string ty, .int .i64 m, .slice none 0 0, .bool we]
    simpa using h
theorem LO.free {o : Obj} (h : LO w tp v nv l cB m we ty S k gv w9) (hgrow : (w9.alloc o).grownBy w1 gv.ownBlock) : w1.frozen? ⟨w.heap.size + 1 + 1, 3, none⟩ = false :=
  ((h.t.alloc o).grown hgrow (fun e => own_ne h.s h.t (by decide) e.symm)).frozen 3
theorem LO.next {gg cap : Nat} {o : Obj} (h : LO w tp v nv l cB m we ty S k gv w9)
    (hown : w1.ownsRow w.heap.size 9 1 (.slice (some ⟨gg, 0, none⟩) (k + 1) cap) (k + 1) (sls (dots S) k ++ [.string (dot (S k))])) (hgrow : (w9.alloc o).grownBy w1 gv.ownBlock) :
    LO w tp v nv l cB m we ty S (k + 1) (.slice (some ⟨gg, 0, none⟩) (k + 1) cap) (w1.setCell ⟨w.heap.size + 1 + 1, 3, none⟩ (.slice (some ⟨gg, 0, none⟩) (k + 1) cap)) := by
  have far : ∀ {q : Nat} {t : TypeId} {cs : Array Value}, Blk w9 q t cs → t ≠ 9 → Blk w1 q t cs := fun hq ht => (hq.alloc o).grown hgrow (fun e => own_ne h.s hq ht e.symm)
  have hsz := h.t.lt
  have et := far h.t (by decide)
  have n1 : ¬ w.heap.size = w.heap.size + 1 + 1 := by omega
  have n2 : ¬ w.heap.size + 1 = w.heap.size + 1 + 1 := by omega
  have hlow : Below w.heap.size w w1 := by
    refine ⟨hgrow.os.trans h.b.os, hgrow.tape.trans h.b.tape, hgrow.output.trans h.b.output, ?_, fun q hq => ?_⟩
    · have h1 := hgrow.size; simp at h1; have := h.b.size; omega
    · have h1 := h.b.size
      rw [hgrow.block q (by simp; omega) (fun e => by have := (h.s.lt q e.symm).1; omega), Below.heap_alloc w9 o q (by omega)]
      exact h.b.block q hq
  exact ⟨(far h.x (by decide)).far n1 _, (far h.r (by decide)).far n2 _, et.set_ 3 _, own_far hown (own_ne hown et (by decide)) _, hlow.setCell (by show w.heap.size ≤ w.heap.size + 1 + 1; omega) _⟩
/-- The result is laid. -/
def Do (w : World) (cB m : Int) (we : Bool) (ty : ByteArray) (S : Nat → ByteArray) (gv : Value) (k : Nat) (wz : World) : Prop :=
  wz.cell? ⟨w.heap.size + 1, 0, none⟩ = some (.int .u8 cB) ∧ wz.cell? ⟨w.heap.size + 1, 1, none⟩ = some (.string ty) ∧ wz.cell? ⟨w.heap.size + 1, 2, none⟩ = some (.int .i64 m) ∧ wz.cell? ⟨w.heap.size + 1, 3, none⟩ = some gv ∧
      wz.cell? ⟨w.heap.size + 1, 4, none⟩ = some (.bool we) ∧ wz.ownsRow w.heap.size 9 1 gv k (sls (dots S) k) ∧ Below w.heap.size w wz
theorem blk5 {w : World} {g : Nat} {t : TypeId} {a b c d e : Value} (h : Blk w g t #[a, b, c, d, e]) (u0 u1 u2 u3 u4 : Value) :
    Blk (((((w.setCell ⟨g, 0, none⟩ u0).setCell ⟨g, 1, none⟩ u1).setCell ⟨g, 2, none⟩ u2).setCell ⟨g, 3, none⟩ u3).setCell ⟨g, 4, none⟩ u4) g t #[u0, u1, u2, u3, u4] := by
  have h0 := ((((h.set_ 0 u0).set_ 1 u1).set_ 2 u2).set_ 3 u3).set_ 4 u4
  simp only [List.setIfInBounds_toArray, List.set_cons_zero, List.set_cons_succ] at h0
  exact h0
theorem LO.done (h : LO w tp v nv l cB m we ty S k gv wr) :
    Do w cB m we ty S gv k (((((wr.setCell ⟨w.heap.size + 1, 0, none⟩ (.int .u8 cB)).setCell ⟨w.heap.size + 1, 1, none⟩ (.string ty)).setCell ⟨w.heap.size + 1, 2, none⟩ (.int .i64 m)).setCell ⟨w.heap.size + 1, 3, none⟩ gv).setCell ⟨w.heap.size + 1, 4, none⟩ (.bool we)) := by
  have hb := blk5 h.r (.int .u8 cB) (.string ty) (.int .i64 m) gv (.bool we)
  have L : w.heap.size ≤ w.heap.size + 1 := by omega
  have ne := own_ne h.s h.r (by decide)
  exact ⟨hb.cell 0, hb.cell 1, hb.cell 2, hb.cell 3, hb.cell 4, own_far (own_far (own_far (own_far (own_far h.s ne _) ne _) ne _) ne _) ne _, ((((h.b.setCell L _).setCell L _).setCell L _).setCell L _).setCell L _⟩
end
theorem own_form {base e size n : Nat} {w : World} {v : Value} {xs : List Value} (h : w.ownsRow base e size v n xs) : ∃ a l c, v = .slice a l c := by
  rcases h.2 with ⟨rfl, -⟩ | ⟨g, cap, cur, rfl, -⟩
  · exact ⟨_, _, _, rfl⟩
  · exact ⟨_, _, _, rfl⟩
def OJ (g5 : Nat) (v : Value) (w' : World) : Prop := w'.cell? ⟨g5, 3, none⟩ = some v ∧ w'.frozen? ⟨g5, 3, none⟩ = false
theorem OJ.step {g5 : Nat} {v : Value} {w1 w2 : World} (h : OJ g5 v w1) (hb : Below w1.heap.size w1 w2) : OJ g5 v w2 :=
  ⟨(hb.cell (World.block_lt_of_cell? w1 _ h.1)).trans h.1, (hb.frozen (p := ⟨g5, 3, none⟩) (World.block_lt_of_cell? w1 _ h.1)).trans h.2⟩
set_option maxRecDepth 100000 in
set_option maxHeartbeats 4000000 in
theorem obs12 (tp : Option Addr) (v : Value) (base n : Nat) (S : Nat → ByteArray) (na : Option Addr) (m nc : Nat) (l cB t : Int) (we : Bool) (w : World) (hn : n ≤ 4096) (hm : m ≤ 255)
    (ht : TyAt w (.pointer tp) t) (hS : Subs base w v n S) (hs : ∀ i, i < n → (S i).size ≤ 1048576) :
    Calls Try.prog 12 #[.agg #[.pointer tp, v, .slice na m nc, .int .i32 l, .int .u8 cB, .bool we]] w fun e w' => ∃ gv, e = .returned (.agg #[.int .u8 cB, .string (tt t), .int .i64 m, gv, .bool we]) ∧
      w'.ownsRow w.heap.size 9 1 gv n (sls (dots S) n) ∧ Below w.heap.size w w' := by
  obtain ⟨va, vl, vc, rfl⟩ := hS.form
  have hvl : vl = n := by
    obtain ⟨P, h1, -⟩ := hS
    rcases h1.2 with ⟨h, h0⟩ | ⟨g, c, cur, h, -⟩
    · simp only [Value.slice.injEq] at h; omega
    · simp only [Value.slice.injEq] at h; omega
  subst hvl
  have HSS := Lib.hid hS
  have HS := Lib.hid hs
  clear hS hs
  have L0 := Lib.hid (LO.start w (.pointer tp) (.slice va vl vc) (.slice na m nc) l cB m we (tt t) S)
  by_cases hty : t = 0
  · have h0 := ht
    unfold TyAt at h0
    rw [if_pos hty] at h0
    simp only [Value.pointer.injEq] at h0
    subst h0
    have ht0 : tt t = ⟨#[]⟩ := if_pos hty
    rw [ht0] at L0 ⊢
    clear ht hty
    go_enter Try.func12, Try.ntmps12
    go_wp2_with fail
    generalize ((w.alloc (.cells #[.pointer none, .slice va vl vc, .slice na m nc, .int .i32 l, .int .u8 cB, .bool we] 46)).alloc (.cells #[.int .u8 0, .string ⟨#[]⟩, .int .i64 0, .slice none 0 0, .bool false] 49)).alloc (.cells #[.int .u8 cB, .string ⟨#[]⟩, .int .i64 m, .slice none 0 0, .bool we] 49) = W2 at *
    go_loopw [4] (fun i wr => ∃ (k : Nat) (gv : Value), k ≤ vl ∧ i = .int .i64 k ∧ Hid (LO w (.pointer none) (.slice va vl vc) (.slice na m nc) l cB m we ⟨#[]⟩ S k gv wr)) (fun i _ => vl - (intOf i).toNat)
    case atStart => exact ⟨0, _, Nat.zero_le _, rfl, L0⟩
    case round =>
      obtain ⟨k, gv, hk, rfl, LL⟩ := hrel
      clear L0
      have x1 : wr.cell? ⟨w.heap.size, 1, none⟩ = some (.slice va vl vc) := LL.out.x.cell 1
      by_cases hlt : k < vl
      · obtain ⟨gs, cap0, P, hv, hgl, hcap, hcs⟩ := HSS.out.cells (by omega)
        simp only [Value.slice.injEq] at hv
        obtain ⟨hva, -, hvc⟩ := hv
        subst hva hvc
        obtain ⟨x3, x4, x5, hB⟩ := hcs k hlt
        rw [← LL.out.b.cell (p := ⟨gs, k * 3, none⟩) hgl] at x3
        rw [← LL.out.b.cell (p := ⟨gs, k * 3 + 1, none⟩) hgl] at x4
        rw [← LL.out.b.cell (p := ⟨gs, k * 3 + 2, none⟩) hgl] at x5
        have HB := Lib.hid (hB.below LL.out.b hB.lt)
        have hsk := HS.out k hlt
        clear hcs hB
        have q1 : (0 : Int) ≤ (k : Int) := by omega
        have q2 : (k : Int) < (vl : Int) := by omega
        go_upto_block 1 with fail
        have HN5 := Lib.hid (own_ne LL.out.s LL.out.t (by decide))
        have HSZ := Lib.hid (show w.heap.size ≤ wr.heap.size from LL.out.b.size)
        have y3 : wr.cell? ⟨w.heap.size + 1 + 1, 3, none⟩ = some gv := LL.out.t.cell 3
        have ST := Lib.hid (show OJ (w.heap.size + 1 + 1) gv wr from ⟨y3, LL.out.t.frozen 3⟩)
        obtain ⟨i0, hi, hz0, hz1, hz2⟩ := info_parts info9
        go_cut [] (fun wx => ∃ v', Hid (LO w (.pointer none) (.slice (some ⟨gs, 0, none⟩) vl vc) (.slice na m nc) l cB m we ⟨#[]⟩ S (k + 1) v' wx))
        case first =>
          go_wp2_with fail
          go_region_law (first
            | (go_simp; go_at_call 21; refine (enc21 (P k) (S k) 0 0 _ hsk (HB.out.drew)).mono ?_; rintro e_ w9 ⟨rfl, hb9⟩; dsimp only; obtain ⟨z1, z2⟩ := ST.out.step (((Below.refl wr.heap.size wr).drew).trans hb9); have HB9 := Lib.hid (((Below.refl wr.heap.size wr).drew).trans hb9); have zs : w.heap.size ≤ w9.heap.size := Nat.le_trans HSZ.out HB9.out.size; have zl : w.heap.size + 1 + 1 < w9.heap.size := World.block_lt_of_cell? w9 _ z1; have zn : ¬ w.heap.size + 1 + 1 = w9.heap.size := Nat.ne_of_lt zl; clear hb9)
            | (refine step_append_lies _ (by rfl) _ _ _ (by rfl) w.heap.size 9 i0 _ 1 16 Try.underlying33 hi hz0 hz1 hz2 rfl (by omega) gv k (sls (dots S) k) (by rfl) ((own_below LL.out.s HB9.out).alloc _) ⟨w9.heap.size, 0, none⟩ 1 1 [.string (dot (S k))] (by rfl) (by rfl) (World.news_of_block (heap_alloc_new w9 _)) (by simp [Value.oneCell']) (by omega) (by unfold maxLen; omega) (by omega) (by simp; omega) (w9.heap.size + 1) (by simp) ?_; intro gg cap w10 hown1 hgrow hat hlt9; have LN := Lib.hid (LO.next (LL.out.below HB9.out) hown1 hgrow); have y1 := hgrow.cell (((Below.refl w9.heap.size w9).alloc (Nat.le_refl _) _).cell (World.block_lt_of_cell? w9 _ z1) |>.trans z1) (Ne.symm HN5.out); have y4 : w10.frozen? ⟨w.heap.size + 1 + 1, 3, none⟩ = false := (LO.free (LL.out.below HB9.out) hgrow); clear hown1 hgrow hat hlt9 z1 z2 zs zl zn))
          all_goals
            go_wp2_with fail
            go_meet
            exact ⟨_, LN⟩
        case rest =>
          obtain ⟨v', LN⟩ := hcut
          go_wp2_with fail
          go_roundw
          case rel => exact ⟨k + 1, _, by omega, by go_num, LN⟩
          case measure => simp [intOf]; omega
      · obtain rfl : k = vl := by omega
        obtain ⟨ga, gl, gc, hgv⟩ := own_form LL.out.s
        subst hgv
        have HZ := Lib.hid (LL.out.done)
        have y0 : wr.cell? ⟨w.heap.size + 1 + 1, 0, none⟩ = some (.int .u8 cB) := LL.out.t.cell 0
        have y1 : wr.cell? ⟨w.heap.size + 1 + 1, 1, none⟩ = some (.string ⟨#[]⟩) := LL.out.t.cell 1
        have y2 : wr.cell? ⟨w.heap.size + 1 + 1, 2, none⟩ = some (.int .i64 m) := LL.out.t.cell 2
        have y3 : wr.cell? ⟨w.heap.size + 1 + 1, 3, none⟩ = some (.slice ga gl gc) := LL.out.t.cell 3
        have y4 : wr.cell? ⟨w.heap.size + 1 + 1, 4, none⟩ = some (.bool we) := LL.out.t.cell 4
        have z0 : wr.cell? ⟨w.heap.size + 1, 0, none⟩ = some (.int .u8 0) := LL.out.r.cell 0
        have f0 : wr.frozen? ⟨w.heap.size + 1, 0, none⟩ = false := LL.out.r.frozen 0
        have z1 : wr.cell? ⟨w.heap.size + 1, 1, none⟩ = some (.string ⟨#[]⟩) := LL.out.r.cell 1
        have f1 : wr.frozen? ⟨w.heap.size + 1, 1, none⟩ = false := LL.out.r.frozen 1
        have z2 : wr.cell? ⟨w.heap.size + 1, 2, none⟩ = some (.int .i64 0) := LL.out.r.cell 2
        have f2 : wr.frozen? ⟨w.heap.size + 1, 2, none⟩ = false := LL.out.r.frozen 2
        have z3 : wr.cell? ⟨w.heap.size + 1, 3, none⟩ = some (.slice none 0 0) := LL.out.r.cell 3
        have f3 : wr.frozen? ⟨w.heap.size + 1, 3, none⟩ = false := LL.out.r.frozen 3
        have z4 : wr.cell? ⟨w.heap.size + 1, 4, none⟩ = some (.bool false) := LL.out.r.cell 4
        have f4 : wr.frozen? ⟨w.heap.size + 1, 4, none⟩ = false := LL.out.r.frozen 4
        go_wp2_with fail
        clear y0 y1 y2 y3 y4 z0 z1 z2 z3 z4 f0 f1 f2 f3 f4 x1
        generalize ((((wr.setCell ⟨w.heap.size + 1, 0, none⟩ (.int .u8 cB)).setCell ⟨w.heap.size + 1, 1, none⟩ (.string ⟨#[]⟩)).setCell ⟨w.heap.size + 1, 2, none⟩ (.int .i64 m)).setCell ⟨w.heap.size + 1, 3, none⟩ (.slice ga gl gc)).setCell ⟨w.heap.size + 1, 4, none⟩ (.bool we) = wz at *
        have hd := HZ.out
        clear HZ
        unfold Do at hd
        obtain ⟨u0, u1, u2, u3, u4, hz⟩ := hd
        have HZ := Lib.hid hz
        clear hz
        refine bodyPost_ret (v := .agg #[.int .u8 cB, .string ⟨#[]⟩, .int .i64 m, .slice ga gl gc, .bool we]) (by simp [results, Try.results12, go_sem, u0, u1, u2, u3, u4]; done) rfl ?_
        exact ⟨_, rfl, HZ.out.1, HZ.out.2⟩
  · have h0 := ht
    unfold TyAt at h0
    rw [if_neg hty] at h0
    obtain ⟨tg, h1, h2⟩ := h0
    simp only [Value.pointer.injEq] at h1
    subst h1
    have ht0 : tt t = lt t := if_neg hty
    rw [ht0] at L0 ⊢
    have y0 : w.cell? ⟨tg, 0, none⟩ = some (.pointer none) := h2.cell 0
    have y1 : w.cell? ⟨tg, 1, none⟩ = some (.string (lt t)) := h2.cell 1
    have yl : tg < w.heap.size := h2.lt
    have n0 : ∀ (a b c : Obj), (((w.alloc a).alloc b).alloc c).cell? ⟨tg, 0, none⟩ = some (.pointer none) := fun a b c => ((((Below.refl w.heap.size w).alloc (Nat.le_refl _) a).alloc (by simp) b).alloc (by simp; omega) c |>.cell (p := ⟨tg, 0, none⟩) yl).trans y0
    have n1 : ∀ (a b c : Obj), (((w.alloc a).alloc b).alloc c).cell? ⟨tg, 1, none⟩ = some (.string (lt t)) := fun a b c => ((((Below.refl w.heap.size w).alloc (Nat.le_refl _) a).alloc (by simp) b).alloc (by simp; omega) c |>.cell (p := ⟨tg, 1, none⟩) yl).trans y1
    clear ht hty h2
    go_enter Try.func12, Try.ntmps12
    go_wp2_with fail
    generalize ((w.alloc (.cells #[.pointer (some ⟨tg, 0, none⟩), .slice va vl vc, .slice na m nc, .int .i32 l, .int .u8 cB, .bool we] 46)).alloc (.cells #[.int .u8 0, .string ⟨#[]⟩, .int .i64 0, .slice none 0 0, .bool false] 49)).alloc (.cells #[.int .u8 cB, .string (lt t), .int .i64 m, .slice none 0 0, .bool we] 49) = W2 at *
    clear y0 y1 yl n0 n1
    go_loopw [4] (fun i wr => ∃ (k : Nat) (gv : Value), k ≤ vl ∧ i = .int .i64 k ∧ Hid (LO w (.pointer (some ⟨tg, 0, none⟩)) (.slice va vl vc) (.slice na m nc) l cB m we (lt t) S k gv wr)) (fun i _ => vl - (intOf i).toNat)
    case atStart => exact ⟨0, _, Nat.zero_le _, rfl, L0⟩
    case round =>
      obtain ⟨k, gv, hk, rfl, LL⟩ := hrel
      clear L0
      have x1 : wr.cell? ⟨w.heap.size, 1, none⟩ = some (.slice va vl vc) := LL.out.x.cell 1
      by_cases hlt : k < vl
      · obtain ⟨gs, cap0, P, hv, hgl, hcap, hcs⟩ := HSS.out.cells (by omega)
        simp only [Value.slice.injEq] at hv
        obtain ⟨hva, -, hvc⟩ := hv
        subst hva hvc
        obtain ⟨x3, x4, x5, hB⟩ := hcs k hlt
        rw [← LL.out.b.cell (p := ⟨gs, k * 3, none⟩) hgl] at x3
        rw [← LL.out.b.cell (p := ⟨gs, k * 3 + 1, none⟩) hgl] at x4
        rw [← LL.out.b.cell (p := ⟨gs, k * 3 + 2, none⟩) hgl] at x5
        have HB := Lib.hid (hB.below LL.out.b hB.lt)
        have hsk := HS.out k hlt
        clear hcs hB
        have q1 : (0 : Int) ≤ (k : Int) := by omega
        have q2 : (k : Int) < (vl : Int) := by omega
        go_upto_block 1 with fail
        have HN5 := Lib.hid (own_ne LL.out.s LL.out.t (by decide))
        have HSZ := Lib.hid (show w.heap.size ≤ wr.heap.size from LL.out.b.size)
        have y3 : wr.cell? ⟨w.heap.size + 1 + 1, 3, none⟩ = some gv := LL.out.t.cell 3
        have ST := Lib.hid (show OJ (w.heap.size + 1 + 1) gv wr from ⟨y3, LL.out.t.frozen 3⟩)
        obtain ⟨i0, hi, hz0, hz1, hz2⟩ := info_parts info9
        go_cut [] (fun wx => ∃ v', Hid (LO w (.pointer (some ⟨tg, 0, none⟩)) (.slice (some ⟨gs, 0, none⟩) vl vc) (.slice na m nc) l cB m we (lt t) S (k + 1) v' wx))
        case first =>
          go_wp2_with fail
          go_region_law (first
            | (go_simp; go_at_call 21; refine (enc21 (P k) (S k) 0 0 _ hsk (HB.out.drew)).mono ?_; rintro e_ w9 ⟨rfl, hb9⟩; dsimp only; obtain ⟨z1, z2⟩ := ST.out.step (((Below.refl wr.heap.size wr).drew).trans hb9); have HB9 := Lib.hid (((Below.refl wr.heap.size wr).drew).trans hb9); have zs : w.heap.size ≤ w9.heap.size := Nat.le_trans HSZ.out HB9.out.size; have zl : w.heap.size + 1 + 1 < w9.heap.size := World.block_lt_of_cell? w9 _ z1; have zn : ¬ w.heap.size + 1 + 1 = w9.heap.size := Nat.ne_of_lt zl; clear hb9)
            | (refine step_append_lies _ (by rfl) _ _ _ (by rfl) w.heap.size 9 i0 _ 1 16 Try.underlying33 hi hz0 hz1 hz2 rfl (by omega) gv k (sls (dots S) k) (by rfl) ((own_below LL.out.s HB9.out).alloc _) ⟨w9.heap.size, 0, none⟩ 1 1 [.string (dot (S k))] (by rfl) (by rfl) (World.news_of_block (heap_alloc_new w9 _)) (by simp [Value.oneCell']) (by omega) (by unfold maxLen; omega) (by omega) (by simp; omega) (w9.heap.size + 1) (by simp) ?_; intro gg cap w10 hown1 hgrow hat hlt9; have LN := Lib.hid (LO.next (LL.out.below HB9.out) hown1 hgrow); have y1 := hgrow.cell (((Below.refl w9.heap.size w9).alloc (Nat.le_refl _) _).cell (World.block_lt_of_cell? w9 _ z1) |>.trans z1) (Ne.symm HN5.out); have y4 : w10.frozen? ⟨w.heap.size + 1 + 1, 3, none⟩ = false := (LO.free (LL.out.below HB9.out) hgrow); clear hown1 hgrow hat hlt9 z1 z2 zs zl zn))
          all_goals
            go_wp2_with fail
            go_meet
            exact ⟨_, LN⟩
        case rest =>
          obtain ⟨v', LN⟩ := hcut
          go_wp2_with fail
          go_roundw
          case rel => exact ⟨k + 1, _, by omega, by go_num, LN⟩
          case measure => simp [intOf]; omega
      · obtain rfl : k = vl := by omega
        obtain ⟨ga, gl, gc, hgv⟩ := own_form LL.out.s
        subst hgv
        have HZ := Lib.hid (LL.out.done)
        have y0 : wr.cell? ⟨w.heap.size + 1 + 1, 0, none⟩ = some (.int .u8 cB) := LL.out.t.cell 0
        have y1 : wr.cell? ⟨w.heap.size + 1 + 1, 1, none⟩ = some (.string (lt t)) := LL.out.t.cell 1
        have y2 : wr.cell? ⟨w.heap.size + 1 + 1, 2, none⟩ = some (.int .i64 m) := LL.out.t.cell 2
        have y3 : wr.cell? ⟨w.heap.size + 1 + 1, 3, none⟩ = some (.slice ga gl gc) := LL.out.t.cell 3
        have y4 : wr.cell? ⟨w.heap.size + 1 + 1, 4, none⟩ = some (.bool we) := LL.out.t.cell 4
        have z0 : wr.cell? ⟨w.heap.size + 1, 0, none⟩ = some (.int .u8 0) := LL.out.r.cell 0
        have f0 : wr.frozen? ⟨w.heap.size + 1, 0, none⟩ = false := LL.out.r.frozen 0
        have z1 : wr.cell? ⟨w.heap.size + 1, 1, none⟩ = some (.string ⟨#[]⟩) := LL.out.r.cell 1
        have f1 : wr.frozen? ⟨w.heap.size + 1, 1, none⟩ = false := LL.out.r.frozen 1
        have z2 : wr.cell? ⟨w.heap.size + 1, 2, none⟩ = some (.int .i64 0) := LL.out.r.cell 2
        have f2 : wr.frozen? ⟨w.heap.size + 1, 2, none⟩ = false := LL.out.r.frozen 2
        have z3 : wr.cell? ⟨w.heap.size + 1, 3, none⟩ = some (.slice none 0 0) := LL.out.r.cell 3
        have f3 : wr.frozen? ⟨w.heap.size + 1, 3, none⟩ = false := LL.out.r.frozen 3
        have z4 : wr.cell? ⟨w.heap.size + 1, 4, none⟩ = some (.bool false) := LL.out.r.cell 4
        have f4 : wr.frozen? ⟨w.heap.size + 1, 4, none⟩ = false := LL.out.r.frozen 4
        go_wp2_with fail
        clear y0 y1 y2 y3 y4 z0 z1 z2 z3 z4 f0 f1 f2 f3 f4 x1
        generalize ((((wr.setCell ⟨w.heap.size + 1, 0, none⟩ (.int .u8 cB)).setCell ⟨w.heap.size + 1, 1, none⟩ (.string (lt t))).setCell ⟨w.heap.size + 1, 2, none⟩ (.int .i64 m)).setCell ⟨w.heap.size + 1, 3, none⟩ (.slice ga gl gc)).setCell ⟨w.heap.size + 1, 4, none⟩ (.bool we) = wz at *
        have hd := HZ.out
        clear HZ
        unfold Do at hd
        obtain ⟨u0, u1, u2, u3, u4, hz⟩ := hd
        have HZ := Lib.hid hz
        clear hz
        refine bodyPost_ret (v := .agg #[.int .u8 cB, .string (lt t), .int .i64 m, .slice ga gl gc, .bool we]) (by simp [results, Try.results12, go_sem, u0, u1, u2, u3, u4]; done) rfl ?_
        exact ⟨_, rfl, HZ.out.1, HZ.out.2⟩
end Go.Proofs.Ytdonfahjcejhpaa.MG
