/- zzBuildInner of n011_210, walked. -/
import Derived.Test.YtdonfahjcejhpaaNa
namespace Go.Proofs.Ytdonfahjcejhpaa.MG
open Go.RowKit Go.Proofs.Ytdonfahjcejhpaa.TB
set_option linter.unusedVariables false
theorem info46 : (Try.prog.info? 46).map (fun i => (i.zero, i.size, i.bytes)) = some (some (.agg #[.pointer none, .slice none 0 0, .slice none 0 0, .int .i32 0, .int .u8 0, .bool false]), 6, 72) := by kernel_rfl
/-- A compound selector under construction, and the list of its subclass selectors. -/
def LC (wr : World) (g5 : Nat) (tp : Option Addr) (na : Option Addr) (m nc : Nat) (cc : Int) (j : Nat) (v : Value) (xs : List Value) (wx : World) : Prop :=
  Blk wx g5 46 #[.pointer tp, v, .slice na m nc, .int .i32 0, .int .u8 cc, .bool false] ∧ wx.ownsRow wr.heap.size 68 3 v j xs ∧ Below wr.heap.size wr wx
theorem LC.start {wr W1 : World} {g5 : Nat} {tp na na0 : Option Addr} {m nc m0 nc0 : Nat} {cc : Int} (h : Blk W1 g5 46 #[.pointer tp, .slice none 0 0, .slice na0 m0 nc0, .int .i32 0, .int .u8 cc, .bool false]) (hb : Below wr.heap.size wr W1) (hg : wr.heap.size ≤ g5) :
    LC wr g5 tp na m nc cc 0 (.slice none 0 0) [] (W1.setCell ⟨g5, 2, none⟩ (.slice na m nc)) := by
  refine ⟨?_, World.ownsRow_nil _ _ _ _, hb.setCell hg _⟩
  have h0 := h.set_ 2 (.slice na m nc)
  simp only [List.setIfInBounds_toArray, List.set_cons_zero, List.set_cons_succ] at h0
  exact h0
theorem LC.next {wr w9 w1 : World} {g5 gg cap : Nat} {tp na : Option Addr} {m nc : Nat} {cc : Int} {j : Nat} {v : Value} {xs ys : List Value} {o : Obj} (h : LC wr g5 tp na m nc cc j v xs w9) (hg : wr.heap.size ≤ g5)
    (hown : w1.ownsRow wr.heap.size 68 3 (.slice (some ⟨gg, 0, none⟩) (j + 1) cap) (j + 1) ys) (hgrow : (w9.alloc o).grownBy w1 v.ownBlock) :
    LC wr g5 tp na m nc cc (j + 1) (.slice (some ⟨gg, 0, none⟩) (j + 1) cap) ys (w1.setCell ⟨g5, 1, none⟩ (.slice (some ⟨gg, 0, none⟩) (j + 1) cap)) := by
  obtain ⟨ht, hs, hb⟩ := h
  have et := (ht.alloc o).grown hgrow (fun e => own_ne hs ht (by decide) e.symm)
  have h0 := et.set_ 1 (.slice (some ⟨gg, 0, none⟩) (j + 1) cap)
  simp only [List.setIfInBounds_toArray, List.set_cons_zero, List.set_cons_succ] at h0
  have hlow : Below wr.heap.size wr w1 := by
    refine ⟨hgrow.os.trans hb.os, hgrow.tape.trans hb.tape, hgrow.output.trans hb.output, ?_, fun q hq => ?_⟩
    · have h1 := hgrow.size; simp at h1; have := hb.size; omega
    · have h1 := hb.size
      rw [hgrow.block q (by simp; omega) (fun e => by have := (hs.lt q e.symm).1; omega), Below.heap_alloc w9 o q (by omega)]
      exact hb.block q hq
  exact ⟨h0, own_far hown (own_ne hown et (by decide)) _, hlow.setCell hg _⟩
theorem LC.below {wr wx w9 : World} {g5 : Nat} {tp na : Option Addr} {m nc : Nat} {cc : Int} {j : Nat} {v : Value} {xs : List Value} (h : LC wr g5 tp na m nc cc j v xs wx) (hb : Below wx.heap.size wx w9) : LC wr g5 tp na m nc cc j v xs w9 :=
  ⟨h.1.below hb h.1.lt, own_below h.2.1 hb, h.2.2.trans (hb.mono h.2.2.size)⟩
theorem LC.free {wr w9 w1 : World} {g5 : Nat} {tp na : Option Addr} {m nc : Nat} {cc : Int} {j : Nat} {v : Value} {xs : List Value} {o : Obj} (h : LC wr g5 tp na m nc cc j v xs w9) (hgrow : (w9.alloc o).grownBy w1 v.ownBlock) : w1.frozen? ⟨g5, 1, none⟩ = false :=
  ((h.1.alloc o).grown hgrow (fun e => own_ne h.2.1 h.1 (by decide) e.symm)).frozen 1
/-- What the list of all of them is. -/
def LOut (w : World) (k : Nat) (v : Value) (wr : World) : Prop := (∃ xs, wr.ownsRow w.heap.size 46 6 v k xs) ∧ Below w.heap.size w wr
theorem LOut.next {w wr wx w1 : World} {k gg cap : Nat} {v : Value} {o : Obj} {ys : List Value} (h : LOut w k v wr) (hb : Below wr.heap.size wr wx) (hown : w1.ownsRow w.heap.size 46 6 (.slice (some ⟨gg, 0, none⟩) (k + 1) cap) (k + 1) ys) (hgrow : (wx.alloc o).grownBy w1 v.ownBlock) :
    LOut w (k + 1) (.slice (some ⟨gg, 0, none⟩) (k + 1) cap) w1 := by
  obtain ⟨⟨xs, hx⟩, hw⟩ := h
  refine ⟨⟨_, hown⟩, ?_⟩
  have h2 : Below w.heap.size w wx := hw.trans (hb.mono hw.size)
  refine ⟨hgrow.os.trans h2.os, hgrow.tape.trans h2.tape, hgrow.output.trans h2.output, ?_, fun q hq => ?_⟩
  · have h1 := hgrow.size; simp at h1; have := h2.size; omega
  · have h1 := h2.size
    rw [hgrow.block q (by simp; omega) (fun e => by have := (hx.lt q e.symm).1; omega), Below.heap_alloc wx o q (by omega)]
    exact h2.block q hq
theorem blk_set0 {w : World} {g : Nat} {t : TypeId} {a b c d e f : Value} (h : Blk w g t #[a, b, c, d, e, f]) (u : Value) : Blk (w.setCell ⟨g, 0, none⟩ u) g t #[u, b, c, d, e, f] := by
  have h0 := h.set_ 0 u
  simp only [List.setIfInBounds_toArray, List.set_cons_zero] at h0
  exact h0
/-- The result of the building of an inner list. -/
def Inn (w : World) (e : Ending) (w' : World) : Prop := ∃ a l c, e = .returned (.slice a l c) ∧ Below w.heap.size w w'
def NJ (g5 : Nat) (v : Value) (w' : World) : Prop := w'.cell? ⟨g5, 1, none⟩ = some v ∧ w'.frozen? ⟨g5, 1, none⟩ = false
theorem NJ.step {g5 : Nat} {v : Value} {w1 w2 : World} (h : NJ g5 v w1) (hb : Below w1.heap.size w1 w2) : NJ g5 v w2 :=
  ⟨(hb.cell (World.block_lt_of_cell? w1 _ h.1)).trans h.1, (hb.frozen (p := ⟨g5, 1, none⟩) (World.block_lt_of_cell? w1 _ h.1)).trans h.2⟩
theorem one6 {tp : Option Addr} {v : Value} {na : Option Addr} {m nc : Nat} {c : Int} (hv : ∃ a l k, v = Value.slice a l k) : ∀ u ∈ [.pointer tp, v, .slice na m nc, .int .i32 0, .int .u8 c, .bool false], u.oneCell' = true := by
  obtain ⟨_, _, _, rfl⟩ := hv
  simp [Value.oneCell']
/-- What one step of the building loop loads. -/
def BK (p q r : Addr) (v sv : Value) (s : ByteArray) (w' : World) : Prop :=
  w'.cell? p = some v ∧ w'.cell? q = some sv ∧ w'.cell? r = some (.string s) ∧ w'.frozen? p = false
theorem BK.step {p q r : Addr} {v sv : Value} {s : ByteArray} {w1 w2 : World} (h : BK p q r v sv s w1) (hb : Below w1.heap.size w1 w2) : BK p q r v sv s w2 := by
  obtain ⟨h1, h2, h3, h4⟩ := h
  exact ⟨(hb.cell (World.block_lt_of_cell? w1 _ h1)).trans h1, (hb.cell (World.block_lt_of_cell? w1 _ h2)).trans h2, (hb.cell (World.block_lt_of_cell? w1 _ h3)).trans h3, (hb.frozen (p := p) (World.block_lt_of_cell? w1 _ h1)).trans h4⟩
set_option maxRecDepth 100000 in
set_option maxHeartbeats 8000000 in
theorem inner26 (A : Option Addr) (n c : Nat) (I : Nat → ZI) (w : World) (hn : n ≤ 1048576) (hI : Iv w (.slice A n c) n I) (hB : ∀ k, k < n → BI (I k)) :
    Calls Try.prog 26 #[.slice A n c] w (Inn w) := by
  have HI := Lib.hid hI
  have HB := Lib.hid hB
  clear hI hB
  obtain ⟨i1, hi1, hy0, hy1, hy2⟩ := info_parts info46
  have hmk := run_make (P := Try.prog) w 29 46 i1 _ Try.underlying29 hi1 hy0 .i64 .i64 0 n (by omega) (by omega) (by rw [hy2]; omega) (by omega)
  simp only [Int.toNat_natCast, hy1] at hmk
  have L0 := Lib.hid (show LOut w 0 (.slice (some ⟨w.heap.size, 0, none⟩) 0 n) (w.alloc (.cells (madeCells #[.pointer none, .slice none 0 0, .slice none 0 0, .int .i32 0, .int .u8 0, .bool false] (n * 6)) 46)) from
    ⟨⟨[], World.ownsRow_made w _ n (Nat.le_refl _) (by unfold maxLen; omega) (size_madeCells _ _)⟩, (Below.refl _ _).alloc (Nat.le_refl _) _⟩)
  go_enter Try.func26, Try.ntmps26
  go_wp2_with fail
  clear hmk
  generalize w.alloc (.cells (madeCells #[.pointer none, .slice none 0 0, .slice none 0 0, .int .i32 0, .int .u8 0, .bool false] (n * 6)) 46) = W0 at *
  go_loopw [3, 4] (fun v i wr => ∃ (k : Nat), k ≤ n ∧ i = .int .i64 k ∧ Hid (LOut w k v wr)) (fun _ i _ => n - (intOf i).toNat)
  case atStart => exact ⟨0, Nat.zero_le _, rfl, L0⟩
  case round =>
    obtain ⟨k, hk, rfl, LL⟩ := hrel
    clear L0
    by_cases hlt : k < n
    · obtain ⟨A', c', hv, hI1⟩ := HI.out
      simp only [Value.slice.injEq] at hv
      obtain ⟨rfl, -, rfl⟩ := hv
      obtain ⟨b, o, hAe, hlb, hI2⟩ := hI1 (by omega)
      subst hAe
      obtain ⟨x, e0, e1, e2, e3, hsv, hwi⟩ := hI2 k hlt
      obtain ⟨sa, sc, hx, hst⟩ := hsv
      subst hx
      obtain ⟨r0, r1, r2, r3, r4, r5, r6⟩ := hwi
      have hbk := HB.out k hlt
      unfold BI at hbk
      obtain ⟨ic, it, ia, nk, ss, hz⟩ : ∃ ic it ia nk ss, I k = ZI.mk ic it ia nk ss := ⟨_, _, _, _, _, rfl⟩
      rw [hz] at e0 e1 e2 e3 hst r0 r1 r2 r3 r4 r5 r6 hbk
      simp only at e0 e1 e2 e3 hst r0 r1 r2 r3 r4 r5 r6 hbk
      obtain ⟨m, rfl⟩ : ∃ m : Nat, ia = (m : Int) := ⟨ia.toNat, by omega⟩
      have CELL := Lib.hid (fun (W : World) (hb : Below wr.heap.size wr W) => show W.cell? ⟨b, o + k * 4, none⟩ = some (.int .u8 ic) ∧ W.cell? ⟨b, o + k * 4 + 1, none⟩ = some (.int .u8 it) ∧ W.cell? ⟨b, o + k * 4 + 2, none⟩ = some (.int .u8 m) ∧ W.cell? ⟨b, o + k * 4 + 3, none⟩ = some (.slice sa nk sc) from by
        have h2 : Below w.heap.size w W := LL.out.2.trans (hb.mono LL.out.2.size)
        exact ⟨by rw [h2.cell hlb]; exact e0, by rw [h2.cell hlb]; exact e1, by rw [h2.cell hlb]; exact e2, by rw [h2.cell hlb]; exact e3⟩)
      have STR := Lib.hid (fun (W : World) (hb : Below wr.heap.size wr W) => show Strs W sa nk ss from hst.below (LL.out.2.trans (hb.mono LL.out.2.size)))
      have HM := Lib.hid (show m ≤ 255 by omega)
      have HNK := Lib.hid hbk
      clear hI1 hI2 e0 e1 e2 e3 hst hz hbk
      have q1 : (0 : Int) ≤ (k : Int) := by omega
      have q2 : (k : Int) < (n : Int) := by omega
      have B1 := Lib.hid (fun (ob : Obj) => show Below wr.heap.size wr (wr.alloc ob) from (Below.refl _ _).alloc (Nat.le_refl _) ob)
      obtain ⟨f0, f1, f2, f3⟩ := CELL.out _ (B1.out (.cells #[.pointer none, .slice none 0 0, .slice none 0 0, .int .i32 0, .int .u8 0, .bool false] 46))
      obtain ⟨p0, p1, p2, p3⟩ := CELL.out _ (B1.out (.cells #[.pointer none, .slice none 0 0, .slice none 0 0, .int .i32 0, .int .u8 (cb ic), .bool false] 46))
      clear f1 f2 f3 p0
      have T0 := Lib.hid (Blk.new wr 46 #[.pointer none, .slice none 0 0, .slice none 0 0, .int .i32 0, .int .u8 (cb ic), .bool false])
      by_cases hty : it = 0
      case' pos =>
        subst hty
        go_wp2_with (go_at_call 13; refine (comb13 _ _ r0 r1).mono ?_; rintro e w' ⟨rfl, rfl⟩)
        clear f0 p1 p2 p3
        have B2 := Lib.hid (B1.out (.cells #[.pointer none, .slice none 0 0, .slice none 0 0, .int .i32 0, .int .u8 (cb ic), .bool false] 46))
        generalize wr.alloc (.cells #[.pointer none, .slice none 0 0, .slice none 0 0, .int .i32 0, .int .u8 (cb ic), .bool false] 46) = W1 at *
        refine (nest18 _ _ HM.out).mono ?_
        rintro e W2 ⟨nv, rfl, ⟨na, nc, rfl⟩, hb2⟩
        have B3 := Lib.hid (B2.out.trans (hb2.mono B2.out.size))
        have T2 := Lib.hid (T0.out.below hb2 T0.out.lt)
        have c2 : W2.cell? ⟨wr.heap.size, 2, none⟩ = some (.slice none 0 0) := T2.out.cell 2
        have d2 : W2.frozen? ⟨wr.heap.size, 2, none⟩ = false := T2.out.frozen 2
        have C0 := Lib.hid (LC.start (na := na) (m := m) (nc := nc) T2.out B3.out (Nat.le_refl _))
        clear hb2 B2 T0 T2 B3 B1
      case' neg =>
        have hh : (it == 0) = false := by simp [hty]
        have hh2 : (it != 0) = true := by simp [hty]
        have ht1 : 1 ≤ it := by omega
        clear hty
        go_wp2_with (go_at_call 13; refine (comb13 _ _ r0 r1).mono ?_; rintro e w' ⟨rfl, rfl⟩)
        clear f0 p1 p2 p3
        have B2 := Lib.hid (B1.out (.cells #[.pointer none, .slice none 0 0, .slice none 0 0, .int .i32 0, .int .u8 (cb ic), .bool false] 46))
        generalize wr.alloc (.cells #[.pointer none, .slice none 0 0, .slice none 0 0, .int .i32 0, .int .u8 (cb ic), .bool false] 46) = W1 at *
        refine (type17 _ _ ht1 r3).mono ?_
        rintro e W1b ⟨tg, rfl, htg, hb1⟩
        have B2b := Lib.hid ((B2.out.trans (hb1.mono B2.out.size)).setCell (p := ⟨wr.heap.size, 0, none⟩) (Nat.le_refl _) (.pointer (some ⟨tg, 0, none⟩)))
        have T1b := Lib.hid (T0.out.below hb1 T0.out.lt)
        have c0 : W1b.cell? ⟨wr.heap.size, 0, none⟩ = some (.pointer none) := T1b.out.cell 0
        have d0 : W1b.frozen? ⟨wr.heap.size, 0, none⟩ = false := T1b.out.frozen 0
        obtain ⟨-, -, p2, -⟩ := CELL.out _ B2b.out
        have T2b := Lib.hid (blk_set0 T1b.out (.pointer (some ⟨tg, 0, none⟩)))
        clear hb1 T0 htg B2 T1b
        go_wp2_with fail
        clear c0 d0 p2
        generalize W1b.setCell ⟨wr.heap.size, 0, none⟩ (.pointer (some ⟨tg, 0, none⟩)) = W1c at *
        refine (nest18 _ _ HM.out).mono ?_
        rintro e W2 ⟨nv, rfl, ⟨na, nc, rfl⟩, hb2⟩
        have B3 := Lib.hid (B2b.out.trans (hb2.mono B2b.out.size))
        have T2 := Lib.hid (T2b.out.below hb2 T2b.out.lt)
        have c2 : W2.cell? ⟨wr.heap.size, 2, none⟩ = some (.slice none 0 0) := T2.out.cell 2
        have d2 : W2.frozen? ⟨wr.heap.size, 2, none⟩ = false := T2.out.frozen 2
        have C0 := Lib.hid (LC.start (na := na) (m := m) (nc := nc) T2.out B3.out (Nat.le_refl _))
        clear hb2 B2b T2b T2 B3 B1 hh hh2 ht1
      all_goals
        go_wp2_with fail
        clear c2 d2
        generalize W2.setCell ⟨wr.heap.size, 2, none⟩ (.slice na m nc) = W3 at *
        obtain ⟨tp, C0⟩ : ∃ tp : Option Addr, Hid (LC wr wr.heap.size tp na m nc (cb ic) 0 (.slice none 0 0) [] W3) := ⟨_, C0⟩
        generalize hg5 : wr.heap.size = g5 at C0 ⊢
        obtain ⟨wo, hwo⟩ : ∃ wo : World, wo = wr := ⟨_, rfl⟩
        rw [← hwo] at C0 CELL STR LL hg5
        go_loopw [6] (fun i wx => ∃ (j : Nat) (v : Value) (xs : List Value), j ≤ nk ∧ i = .int .i64 j ∧ Hid (LC wo g5 tp na m nc (cb ic) j v xs wx)) (fun i _ => nk - (intOf i).toNat)
        case atStart => exact ⟨0, _, _, Nat.zero_le _, rfl, C0⟩
        case round =>
          obtain ⟨j, v, xs, hj, rfl, CC⟩ := hrel
          clear C0
          have BX := Lib.hid CC.out.2.2
          obtain ⟨-, -, -, e3⟩ := CELL.out _ BX.out
          by_cases hlt2 : j < nk
          · obtain ⟨sb, so, hAe2, hlb2, hc2⟩ := STR.out _ BX.out (by omega)
            subst hAe2
            have x3 := hc2 j hlt2
            clear hc2
            have q3 : (0 : Int) ≤ (j : Int) := by omega
            have q4 : (j : Int) < (nk : Int) := by omega
            go_upto_block 3 with fail
            have OW := Lib.hid CC.out.2.1
            have HN5 := Lib.hid (own_ne CC.out.2.1 CC.out.1 (by decide))
            have HSZ := Lib.hid (show wo.heap.size ≤ wr.heap.size from BX.out.size)
            have ST := Lib.hid (show BK ⟨g5, 1, none⟩ ⟨b, o + k * 4 + 3, none⟩ ⟨sb, so + j, none⟩ v (.slice (some ⟨sb, so, none⟩) nk sc) (ss j) wr from ⟨CC.out.1.cell 1, e3, x3, CC.out.1.frozen 1⟩)
            have x1 : wr.cell? ⟨g5, 1, none⟩ = some v := CC.out.1.cell 1
            obtain ⟨i0, hi, hz0, hz1, hz2⟩ := info_parts info68
            go_cut [] (fun wx => ∃ v' xs', Hid (LC wo g5 tp na m nc (cb ic) (j + 1) v' xs' wx))
            case first =>
              go_wp2_with fail
              go_region_law (first
                | (go_simp; go_at_call 20; refine (bare20 _ _).mono ?_; rintro e_ w9 ⟨bg, rfl, hbg, hb9, hge9⟩; dsimp only; obtain ⟨z1, z2, z3, z4⟩ := ST.out.step (((Below.refl wr.heap.size wr).drew).trans hb9); have HB9 := Lib.hid (((Below.refl wr.heap.size wr).drew).trans hb9); have zs : wo.heap.size ≤ w9.heap.size := Nat.le_trans HSZ.out HB9.out.size; have zl : g5 < w9.heap.size := World.block_lt_of_cell? w9 _ z1; have zn : ¬ g5 = w9.heap.size := Nat.ne_of_lt zl; clear hb9 hbg hge9)
                | (refine step_append_lies _ (by rfl) _ _ _ (by rfl) wo.heap.size 68 i0 _ 3 24 Try.underlying39 hi hz0 hz1 hz2 rfl (by omega) v j xs (by rfl) ((own_below OW.out HB9.out).alloc _) ⟨w9.heap.size, 0, none⟩ 1 1 [.iface 78 (.pointer (some ⟨bg, 0, none⟩)), .int .i32 0, .int .i32 0] (by rfl) (by rfl) (World.news_of_block (heap_alloc_new w9 _)) (by simp [Value.oneCell']) (by have := HNK.out; omega) (by unfold maxLen; have := HNK.out; omega) (by have := HNK.out; omega) (by have := HNK.out; simp; omega) (w9.heap.size + 1) (by simp) ?_; intro gg cap w10 hown1 hgrow hat hlt9; have LN := Lib.hid (LC.next (CC.out.below HB9.out) (Nat.le_of_eq hg5) hown1 hgrow); have y1 := hgrow.cell (((Below.refl w9.heap.size w9).alloc (Nat.le_refl _) _).cell (World.block_lt_of_cell? w9 _ z1) |>.trans z1) (Ne.symm HN5.out); have y4 : w10.frozen? ⟨g5, 1, none⟩ = false := (LC.free (CC.out.below HB9.out) hgrow); clear hown1 hgrow hat hlt9 z1 z2 z3 z4 zs zl zn))
              all_goals
                go_wp2_with fail
                go_meet
                exact ⟨_, _, LN⟩
            case rest =>
              obtain ⟨v', xs', LN⟩ := hcut
              go_wp2_with fail
              go_roundw
              case rel => exact ⟨j + 1, _, _, by omega, by go_num, LN⟩
              case measure => simp [intOf]; omega
          · obtain rfl : j = nk := by omega
            have y0 : wr.cell? ⟨g5, 0, none⟩ = some (.pointer tp) := CC.out.1.cell 0
            have y1 : wr.cell? ⟨g5, 1, none⟩ = some v := CC.out.1.cell 1
            have y2 : wr.cell? ⟨g5, 2, none⟩ = some (.slice na m nc) := CC.out.1.cell 2
            have y3 : wr.cell? ⟨g5, 3, none⟩ = some (.int .i32 0) := CC.out.1.cell 3
            have y4 : wr.cell? ⟨g5, 4, none⟩ = some (.int .u8 (cb ic)) := CC.out.1.cell 4
            have y5 : wr.cell? ⟨g5, 5, none⟩ = some (.bool false) := CC.out.1.cell 5
            obtain ⟨xs0, hx0⟩ := LL.out.1
            have OW := Lib.hid (own_below hx0 BX.out)
            have V1 := Lib.hid (one6 (tp := tp) (na := na) (m := m) (nc := nc) (c := cb ic) (own_form CC.out.2.1))
            have HSW := Lib.hid (show w.heap.size ≤ wr.heap.size + 1 from Nat.le_succ_of_le (Nat.le_trans LL.out.2.size BX.out.size))
            clear hx0
            go_wp2_with (at_builtin; refine wpList_append_lies _ rfl _ _ _ rfl w.heap.size 46 i1 _ 6 72 Try.underlying29 hi1 hy0 hy1 hy2 rfl (by omega) u3 k xs0 rfl (OW.out.alloc _) ⟨wr.heap.size, 0, none⟩ 1 1 [.pointer tp, v, .slice na m nc, .int .i32 0, .int .u8 (cb ic), .bool false] rfl rfl (World.news_of_block (heap_alloc_new wr _)) V1.out (by omega) (by unfold maxLen; omega) (by omega) (by simpa using HSW.out) (wr.heap.size + 1) (by simp) ?_; intro gg cap w10 hown1 hgrow hat hlt9; have LN := Lib.hid (LOut.next LL.out BX.out hown1 hgrow); clear hown1 hgrow hat hlt9)
            go_roundw
            case rel => exact ⟨k + 1, by omega, by go_num, LN⟩
            case measure => simp [intOf]; omega
    · obtain rfl : k = n := by omega
      obtain ⟨va, vl, vc, rfl⟩ : ∃ a l c, u3 = Value.slice a l c := by obtain ⟨xs, hx⟩ := LL.out.1; exact own_form hx
      have BE := Lib.hid LL.out.2
      go_wp2_with fail
      go_ret
      exact ⟨_, _, _, rfl, BE.out.alloc BE.out.size _⟩
end Go.Proofs.Ytdonfahjcejhpaa.MG
