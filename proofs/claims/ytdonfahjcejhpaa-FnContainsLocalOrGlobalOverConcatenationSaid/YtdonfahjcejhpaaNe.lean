/- zzBuildComplex of n011_210, walked. -/
import Derived.Test.YtdonfahjcejhpaaNd
namespace Go.Proofs.Ytdonfahjcejhpaa.MG
open Go.RowKit Go.Proofs.Ytdonfahjcejhpaa.TB
set_option linter.unusedVariables false
theorem one6' (r : RW) (hv : ∃ a l k, r.v = Value.slice a l k) : ∀ u ∈ [.pointer r.tp, r.v, .slice r.na r.m r.nc, .int .i32 0, .int .u8 r.c, .bool false], u.oneCell' = true := by
  obtain ⟨tp, v, na, m, nc, c⟩ := r
  obtain ⟨_, _, _, h⟩ := hv
  simp only at h
  subst h
  simp [Value.oneCell']
theorem one3 {x : Value} (hx : x.oneCell' = true) : ∀ u ∈ [x, .int .i32 0, .int .i32 0], u.oneCell' = true := by
  intro u hu
  simp only [List.mem_cons, List.not_mem_nil, or_false] at hu
  rcases hu with rfl | rfl | rfl
  · exact hx
  · rfl
  · rfl
set_option maxRecDepth 100000 in
set_option maxHeartbeats 8000000 in
theorem complex8 (A : Option Addr) (n c : Nat) (C : Nat → ZC) (w : World) (hn : n ≤ 2097152) (hI : Cv w (.slice A n c) n C) (hB : ∀ k, k < n → BC (C k)) :
    Calls Try.prog 8 #[.slice A n c] w (CR w n C) := by
  have HI := Lib.hid hI
  have HB := Lib.hid hB
  clear hI hB
  obtain ⟨i1, hi1, hy0, hy1, hy2⟩ := info_parts info46
  have hmk := run_make (P := Try.prog) (w.alloc (.cells #[.slice none 0 0] 31)) 29 46 i1 _ Try.underlying29 hi1 hy0 .i64 .i64 0 n (by omega) (by omega) (by rw [hy2]; omega) (by omega)
  simp only [Int.toNat_natCast, hy1] at hmk
  have L0 := Lib.hid (LU.start w C n (by unfold maxLen; omega))
  go_enter Try.func8, Try.ntmps8
  go_wp2_with fail
  clear hmk
  generalize ((w.alloc (.cells #[.slice none 0 0] 31)).alloc (.cells (madeCells #[.pointer none, .slice none 0 0, .slice none 0 0, .int .i32 0, .int .u8 0, .bool false] (n * 6)) 46)) = W0 at *
  go_loopw [3, 4] (fun v i wr => ∃ (k : Nat), k ≤ n ∧ i = .int .i64 k ∧ Hid (LU w k C v wr)) (fun _ i _ => n - (intOf i).toNat)
  case atStart => exact ⟨0, Nat.zero_le _, rfl, L0⟩
  case round =>
    obtain ⟨k, hk, rfl, LL⟩ := hrel
    clear L0
    by_cases hlt : k < n
    · obtain ⟨A', c', hv, hI1⟩ := HI.out
      simp only [Value.slice.injEq] at hv
      obtain ⟨rfl, -, rfl⟩ := hv
      obtain ⟨b, o, hAe, hlb, hI2⟩ := hI1 (by omega)
      subst hAe
      obtain ⟨x, e0, e1, e2, e3, hsv, hwi⟩ := hI2 k hlt
      obtain ⟨sa, sc, hx, hst⟩ := hsv
      subst hx
      obtain ⟨r0, r1, r2, r3, r4, r5, r6⟩ := hwi
      have hbk := HB.out k hlt
      unfold BC at hbk
      obtain ⟨ic, it, ia, nk, ss, hz⟩ : ∃ ic it ia nk ss, C k = ZC.mk ic it ia nk ss := ⟨_, _, _, _, _, rfl⟩
      have HCK := Lib.hid hz
      rw [hz] at e0 e1 e2 e3 hst r0 r1 r2 r3 r4 r5 r6 hbk
      simp only at e0 e1 e2 e3 hst r0 r1 r2 r3 r4 r5 r6 hbk
      obtain ⟨m, rfl⟩ : ∃ m : Nat, ia = (m : Int) := ⟨ia.toNat, by omega⟩
      have BW := Lib.hid LL.out.2.2
      have f0 : wr.cell? ⟨b, o + k * 4, none⟩ = some (.int .u8 ic) := by rw [BW.out.cell hlb]; exact e0
      have f1 : wr.cell? ⟨b, o + k * 4 + 1, none⟩ = some (.int .u8 it) := by rw [BW.out.cell hlb]; exact e1
      have f2 : wr.cell? ⟨b, o + k * 4 + 2, none⟩ = some (.int .u8 m) := by rw [BW.out.cell hlb]; exact e2
      have f3 : wr.cell? ⟨b, o + k * 4 + 3, none⟩ = some (.slice sa nk sc) := by rw [BW.out.cell hlb]; exact e3
      have STR := Lib.hid (fun (W : World) (hb : Below wr.heap.size wr W) => show (0 < nk → ∃ b o, sa = some ⟨b, o, none⟩ ∧ b < W.heap.size ∧ ∀ i, i < nk → ∃ x, W.cell? ⟨b, o + i * 4, none⟩ = some (.bool (ss i).wr) ∧
          W.cell? ⟨b, o + i * 4 + 1, none⟩ = some (.int .u8 (ss i).k) ∧ W.cell? ⟨b, o + i * 4 + 2, none⟩ = some (.string (ss i).nm) ∧ W.cell? ⟨b, o + i * 4 + 3, none⟩ = some x ∧ Iv W x (ss i).n (ss i).s ∧ WS (ss i)) from by
        have h2 : Below w.heap.size w W := BW.out.trans (hb.mono BW.out.size)
        obtain ⟨A9, c9, hv9, hU⟩ := (show Uv w (.slice sa nk sc) nk ss from ⟨sa, sc, rfl, hst⟩).below h2
        simp only [Value.slice.injEq] at hv9
        obtain ⟨rfl, -, rfl⟩ := hv9
        exact hU)
      have HM := Lib.hid (show m ≤ 255 by omega)
      have HNK := Lib.hid hbk.1
      have HBS := Lib.hid hbk.2
      clear hI1 hI2 e0 e1 e2 e3 hst hz hbk
      have q1 : (0 : Int) ≤ (k : Int) := by omega
      have q2 : (k : Int) < (n : Int) := by omega
      have T0 := Lib.hid (show Blk ((wr.alloc (.cells #[.int .u8 ic, .int .u8 it, .int .u8 m, .slice sa nk sc] 27)).alloc (.cells #[.pointer none, .slice none 0 0, .slice none 0 0, .int .i32 0, .int .u8 (cb ic), .bool false] 46)) wr.heap.size 27 #[.int .u8 ic, .int .u8 it, .int .u8 m, .slice sa nk sc] ∧ Blk ((wr.alloc (.cells #[.int .u8 ic, .int .u8 it, .int .u8 m, .slice sa nk sc] 27)).alloc (.cells #[.pointer none, .slice none 0 0, .slice none 0 0, .int .i32 0, .int .u8 (cb ic), .bool false] 46)) (wr.heap.size + 1) 46 #[.pointer none, .slice none 0 0, .slice none 0 0, .int .i32 0, .int .u8 (cb ic), .bool false] ∧ Below wr.heap.size wr ((wr.alloc (.cells #[.int .u8 ic, .int .u8 it, .int .u8 m, .slice sa nk sc] 27)).alloc (.cells #[.pointer none, .slice none 0 0, .slice none 0 0, .int .i32 0, .int .u8 (cb ic), .bool false] 46)) from
        ⟨(Blk.new wr 27 _).alloc _, by simpa using Blk.new (wr.alloc (.cells #[.int .u8 ic, .int .u8 it, .int .u8 m, .slice sa nk sc] 27)) 46 #[.pointer none, .slice none 0 0, .slice none 0 0, .int .i32 0, .int .u8 (cb ic), .bool false], ((Below.refl _ _).alloc (Nat.le_refl _) _).alloc (by simp) _⟩)
      by_cases hty : it = 0
      case' pos =>
        subst hty
        go_wp2_with (go_at_call 13; refine (comb13 _ _ r0 r1).mono ?_; rintro e w' ⟨rfl, rfl⟩)
        clear f0 f1 f2 f3
        generalize ((wr.alloc (.cells #[.int .u8 ic, .int .u8 0, .int .u8 m, .slice sa nk sc] 27)).alloc (.cells #[.pointer none, .slice none 0 0, .slice none 0 0, .int .i32 0, .int .u8 (cb ic), .bool false] 46)) = W1 at *
        refine (nest18 _ _ HM.out).mono ?_
        rintro e W2 ⟨nv, rfl, ⟨na, nc, rfl⟩, hb2⟩
        have TC := Lib.hid (T0.out.1.below hb2 T0.out.1.lt)
        have T2 := Lib.hid (T0.out.2.1.below hb2 T0.out.2.1.lt)
        have B3 := Lib.hid (T0.out.2.2.trans (hb2.mono T0.out.2.2.size))
        have C0 := Lib.hid (LD.start (na := na) (m := m) (nc := nc) (Z := ss) TC.out T2.out B3.out (Nat.le_succ _) (by omega))
        clear T0
      case' neg =>
        have hh : (it == 0) = false := by simp [hty]
        have hh2 : (it != 0) = true := by simp [hty]
        have ht1 : 1 ≤ it := by omega
        clear hty
        go_wp2_with (go_at_call 13; refine (comb13 _ _ r0 r1).mono ?_; rintro e w' ⟨rfl, rfl⟩)
        clear f0 f1 f2 f3
        generalize ((wr.alloc (.cells #[.int .u8 ic, .int .u8 it, .int .u8 m, .slice sa nk sc] 27)).alloc (.cells #[.pointer none, .slice none 0 0, .slice none 0 0, .int .i32 0, .int .u8 (cb ic), .bool false] 46)) = W1 at *
        refine (type17 _ _ ht1 r3).mono ?_
        rintro e W1b ⟨tg, rfl, htg, hb1⟩
        have T1c := Lib.hid (T0.out.1.below hb1 T0.out.1.lt)
        have T1b := Lib.hid (T0.out.2.1.below hb1 T0.out.2.1.lt)
        have B1b := Lib.hid ((T0.out.2.2.trans (hb1.mono T0.out.2.2.size)).setCell (p := ⟨wr.heap.size + 1, 0, none⟩) (Nat.le_succ _) (.pointer (some ⟨tg, 0, none⟩)))
        have T2c := Lib.hid (T1c.out.far (p := ⟨wr.heap.size + 1, 0, none⟩) (by simp) (.pointer (some ⟨tg, 0, none⟩)))
        have T2b := Lib.hid (blk_set0 T1b.out (.pointer (some ⟨tg, 0, none⟩)))
        have c0 : W1b.cell? ⟨wr.heap.size + 1, 0, none⟩ = some (.pointer none) := T1b.out.cell 0
        have d0 : W1b.frozen? ⟨wr.heap.size + 1, 0, none⟩ = false := T1b.out.frozen 0
        have p2 : (W1b.setCell ⟨wr.heap.size + 1, 0, none⟩ (.pointer (some ⟨tg, 0, none⟩))).cell? ⟨wr.heap.size, 2, none⟩ = some (.int .u8 m) := T2c.out.cell 2
        clear hb1 T0 htg T1c T1b
        go_wp2_with fail
        clear c0 d0 p2
        generalize W1b.setCell ⟨wr.heap.size + 1, 0, none⟩ (.pointer (some ⟨tg, 0, none⟩)) = W1c at *
        refine (nest18 _ _ HM.out).mono ?_
        rintro e W2 ⟨nv, rfl, ⟨na, nc, rfl⟩, hb2⟩
        have TC := Lib.hid (T2c.out.below hb2 T2c.out.lt)
        have T2 := Lib.hid (T2b.out.below hb2 T2b.out.lt)
        have B3 := Lib.hid (B1b.out.trans (hb2.mono B1b.out.size))
        have C0 := Lib.hid (LD.start (na := na) (m := m) (nc := nc) (Z := ss) TC.out T2.out B3.out (Nat.le_succ _) (by omega))
        clear T2b T2c B1b hh hh2 ht1
      all_goals
        have c2 : W2.cell? ⟨wr.heap.size + 1, 2, none⟩ = some (.slice none 0 0) := T2.out.cell 2
        have d2 : W2.frozen? ⟨wr.heap.size + 1, 2, none⟩ = false := T2.out.frozen 2
        clear hb2 T2 TC B3
        go_wp2_with fail
        clear c2 d2
        generalize W2.setCell ⟨wr.heap.size + 1, 2, none⟩ (.slice na m nc) = W3 at *
        obtain ⟨tp, X, hX, C0⟩ : ∃ (tp : Option Addr) (X : Array Value), X[3]? = some (.slice sa nk sc) ∧ Hid (LD wr wr.heap.size (wr.heap.size + 1) X tp na m nc (cb ic) ss 0 (.slice none 0 0) W3) := ⟨_, _, rfl, C0⟩
        have HX := Lib.hid hX
        clear hX
        generalize hgc : wr.heap.size = gc at C0 ⊢
        generalize hg5 : gc + 1 = g5 at C0 ⊢
        obtain ⟨wo, hwo⟩ : ∃ wo : World, wo = wr := ⟨_, rfl⟩
        rw [← hwo] at C0 STR LL BW hgc
        go_loopw [7] (fun i wx => ∃ (j : Nat) (v : Value), j ≤ nk ∧ i = .int .i64 j ∧ Hid (LD wo gc g5 X tp na m nc (cb ic) ss j v wx)) (fun i _ => nk - (intOf i).toNat)
        case atStart => exact ⟨0, _, Nat.zero_le _, rfl, C0⟩
        case round =>
          obtain ⟨j, v, hj, rfl, CC⟩ := hrel
          clear C0
          have BX := Lib.hid CC.out.2.2.2
          have e3 : wr.cell? ⟨gc, 3, none⟩ = some (.slice sa nk sc) := (CC.out.1.cell 3).trans HX.out
          by_cases hlt2 : j < nk
          · obtain ⟨sb, so, hAe2, hlb2, hc2⟩ := STR.out _ BX.out (by omega)
            subst hAe2
            obtain ⟨x, x3, x4, x5, x6, hiv, hws⟩ := hc2 j hlt2
            obtain ⟨zz, hzz⟩ : ∃ zz, ss j = zz := ⟨_, rfl⟩
            have HZZ := Lib.hid hzz
            have HBZ := Lib.hid (show BS zz from hzz ▸ HBS.out j hlt2)
            rw [hzz] at x3 x4 x5 hiv hws
            obtain ⟨xa, xc, hxe, hiv2⟩ := id hiv
            subst hxe
            have HIV := Lib.hid hiv
            have HWS := Lib.hid hws
            clear hc2 hiv hws hiv2 hzz
            have q3 : (0 : Int) ≤ (j : Int) := by omega
            have q4 : (j : Int) < (nk : Int) := by omega
            go_upto_block 3 with fail
            obtain ⟨P, hown, hP⟩ := CC.out.2.2.1
            have OW := Lib.hid hown
            have OP := Lib.hid hP
            have HN5 := Lib.hid (own_ne hown CC.out.2.1 (by decide))
            have HSZ := Lib.hid (show wo.heap.size ≤ wr.heap.size from BX.out.size)
            have x1 : wr.cell? ⟨g5, 1, none⟩ = some v := CC.out.2.1.cell 1
            have ST := Lib.hid (fun (W : World) (hb : Below wr.heap.size wr W) => show W.cell? ⟨g5, 1, none⟩ = some v ∧ W.frozen? ⟨g5, 1, none⟩ = false from ⟨(CC.out.2.1.below hb CC.out.2.1.lt).cell 1, (CC.out.2.1.below hb CC.out.2.1.lt).frozen 1⟩)
            obtain ⟨i0, hi, hz0, hz1, hz2⟩ := info_parts info68
            clear hown hP
            go_cut [] (fun wx => ∃ v', Hid (LD wo gc g5 X tp na m nc (cb ic) ss (j + 1) v' wx))
            case first =>
              go_wp2_with fail
              go_region_law (first
                | (go_simp; go_at_call 19; refine (sub19 zz xa xc _ HWS.out HBZ.out (HIV.out.below (Below.refl wr.heap.size wr).drew)).mono ?_; rintro e_ w9 ⟨xv, rfl, hsv9, hb9⟩; dsimp only; obtain ⟨z1, z4⟩ := ST.out _ (((Below.refl wr.heap.size wr).drew).trans hb9); have HB9 := Lib.hid (((Below.refl wr.heap.size wr).drew).trans hb9); have HSV := Lib.hid hsv9; have zs : wo.heap.size ≤ w9.heap.size := Nat.le_trans HSZ.out HB9.out.size; have zl : g5 < w9.heap.size := World.block_lt_of_cell? w9 _ z1; have zn : ¬ g5 = w9.heap.size := Nat.ne_of_lt zl; clear hb9 hsv9)
                | (refine step_append_lies _ (by rfl) _ _ _ (by rfl) wo.heap.size 68 i0 _ 3 24 Try.underlying39 hi hz0 hz1 hz2 rfl (by omega) v j (ezs P j) (by rfl) ((own_below OW.out HB9.out).alloc _) ⟨w9.heap.size, 0, none⟩ 1 1 [xv, .int .i32 0, .int .i32 0] (by rfl) (by rfl) (World.news_of_block (heap_alloc_new w9 _)) (one3 HSV.out.one) (by have := HNK.out; omega) (by unfold maxLen; have := HNK.out; omega) (by have := HNK.out; omega) (by have := HNK.out; simp; omega) (w9.heap.size + 1) (by simp) ?_; intro gg cap w10 hown1 hgrow hat hlt9; have LN := Lib.hid (LD.next (CC.out.below HB9.out) (by omega) (by omega) (own_below OW.out HB9.out) (fun i hi => (OP.out i hi).below HB9.out) (HZZ.out ▸ HSV.out) hown1 hgrow); have y1 := hgrow.cell (((Below.refl w9.heap.size w9).alloc (Nat.le_refl _) _).cell (World.block_lt_of_cell? w9 _ z1) |>.trans z1) (Ne.symm HN5.out); have y4 : w10.frozen? ⟨g5, 1, none⟩ = false := (LD.free (CC.out.below HB9.out) (own_below OW.out HB9.out) hgrow); clear hown1 hgrow hat hlt9 z1 z4 zs zl zn))
              all_goals
                go_wp2_with fail
                go_meet
                exact ⟨_, LN⟩
            case rest =>
              obtain ⟨v', LN⟩ := hcut
              go_wp2_with fail
              go_roundw
              case rel => exact ⟨j + 1, _, by omega, by go_num, LN⟩
              case measure => simp [intOf]; omega
          · obtain rfl : j = nk := by omega
            have y0 : wr.cell? ⟨g5, 0, none⟩ = some (.pointer tp) := CC.out.2.1.cell 0
            have y1 : wr.cell? ⟨g5, 1, none⟩ = some v := CC.out.2.1.cell 1
            have y2 : wr.cell? ⟨g5, 2, none⟩ = some (.slice na m nc) := CC.out.2.1.cell 2
            have y3 : wr.cell? ⟨g5, 3, none⟩ = some (.int .i32 0) := CC.out.2.1.cell 3
            have y4 : wr.cell? ⟨g5, 4, none⟩ = some (.int .u8 (cb ic)) := CC.out.2.1.cell 4
            have y5 : wr.cell? ⟨g5, 5, none⟩ = some (.bool false) := CC.out.2.1.cell 5
            obtain ⟨R, hx0, hR⟩ := LL.out.1.below BX.out
            have OW := Lib.hid hx0
            have OR := Lib.hid hR
            have HSL := Lib.hid (show SList wr (RW.mk tp v na m nc (cb ic)).v (C k).n (C k).s from by rw [HCK.out]; exact CC.out.slist)
            have V1 := Lib.hid (one6' (RW.mk tp v na m nc (cb ic)) (by obtain ⟨P, hp, -⟩ := CC.out.2.2.1; exact own_form hp))
            have HSW := Lib.hid (show w.heap.size ≤ wr.heap.size + 1 from Nat.le_succ_of_le (Nat.le_trans BW.out.size BX.out.size))
            clear hx0 hR
            go_wp2_with (at_builtin; refine wpList_append_lies _ rfl _ _ _ rfl w.heap.size 46 i1 _ 6 72 Try.underlying29 hi1 hy0 hy1 hy2 rfl (by omega) u3 k (rws R k) rfl (OW.out.alloc _) ⟨wr.heap.size, 0, none⟩ 1 1 [.pointer tp, v, .slice na m nc, .int .i32 0, .int .u8 (cb ic), .bool false] rfl rfl (World.news_of_block (heap_alloc_new wr _)) V1.out (by omega) (by unfold maxLen; omega) (by omega) (by simpa using HSW.out) (wr.heap.size + 1) (by simp) ?_; intro gg cap w10 hown1 hgrow hat hlt9; have LN := Lib.hid (LU.next (r := RW.mk tp v na m nc (cb ic)) LL.out BX.out OW.out OR.out HSL.out hown1 hgrow); clear hown1 hgrow hat hlt9)
            go_roundw
            case rel => exact ⟨k + 1, by omega, by go_num, LN⟩
            case measure => simp [intOf]; omega
    · obtain rfl : k = n := by omega
      have HD := Lib.hid LL.out.done
      obtain ⟨va, vl, vc, rfl⟩ : ∃ a l c, u3 = Value.slice a l c := by obtain ⟨xs, hx, -⟩ := LL.out.1; exact own_form hx
      have y0 : wr.cell? ⟨w.heap.size, 0, none⟩ = some (.slice none 0 0) := LL.out.2.1.cell 0
      have f0 : wr.frozen? ⟨w.heap.size, 0, none⟩ = false := LL.out.2.1.frozen 0
      go_wp2_with fail
      clear y0 f0
      generalize wr.setCell ⟨w.heap.size, 0, none⟩ (.slice va vl vc) = W9 at *
      have y0 : W9.cell? ⟨w.heap.size, 0, none⟩ = some (.slice va vl vc) := HD.out.1.cell 0
      refine bodyPost_ret (v := .agg #[.slice va vl vc]) (by simp [results, Try.results8, go_sem, y0]; done) rfl ?_
      exact ⟨_, rfl, HD.out.2⟩
end Go.Proofs.Ytdonfahjcejhpaa.MG
