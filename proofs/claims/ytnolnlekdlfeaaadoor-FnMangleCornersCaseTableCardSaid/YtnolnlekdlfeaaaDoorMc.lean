/- FnMangleCornersCaseTable: mangleCorners, walked. -/
import Derived.Test.YtnolnlekdlfeaaaDoorMd
namespace Go.Proofs.YtnolnlekdlfeaaaDoor.ZT
open Go.RowKit Go.Proofs.YtnolnlekdlfeaaaDoor.TB
set_option linter.unusedVariables false
theorem Tk.there72 {w : World} {g : Nat} {S : Nat → Cn} {im : Bool} (h : Tk w g S im) : w.there g 0 zl.toArray.size := fun j hj => ⟨by
  have hj' : j < 72 := hj
  rw [Nat.zero_add, h.cell (by omega)]; rfl, h.frozen _⟩
theorem MS.reset {w W : World} {g rg d tb n : Nat} {Q : Nat → Nat} {ks kl : Int} {ib : Bool} {l : Int} {S : Nat → Cn} (h : MS w g rg d tb n Q ks kl ib l S W) : Kept w.heap.size g w (W.setCells g 0 zl) := kept_setCells h.k zl 0
set_option maxRecDepth 100000 in
set_option maxHeartbeats 16000000 in
theorem mang23 (g rg d tb n : Nat) (Q : Nat → Nat) (ks kl : Int) (ib mw : Bool) (l : Int) (w : World) (ht : Tk w g (fun _ => C0) false) (he : EV w g rg d tb n Q ks kl ib l) (hn : n ≤ 4096) (nr : Nat) (hnr : nr = 1) :
    Calls Tryd.prog 23 #[.pointer (some ⟨g, 0, none⟩), .slice (some ⟨rg, 0, none⟩) nr nr, .pointer (some ⟨d, 0, none⟩), .bool mw] w (McP w g rg d n Q ks kl ib mw l) := by
  have e72 : w.cell? ⟨g, 72, none⟩ = some (.bool false) := ht.imp
  have d5 : w.cell? ⟨d, 5, none⟩ = some (.bool ib) := he.hd.cell 5
  have HNR := Lib.hid hnr
  have qn1 : (1 : Int) ≤ (nr : Int) := by omega
  have qn2 : (nr : Int) ≤ 5 := by omega
  clear hnr
  have HT := Lib.hid ht
  have HE := Lib.hid he
  have HQ := Lib.hid he.hq
  have hi76 : (Tryd.prog.info? 76).map (·.size) = some zl.toArray.size := by kernel_rfl
  clear ht he
  go_enter Tryd.func23, Tryd.ntmps23
  go_wp2_with fail
  go_quiet (fail)
  go_upto_if 34 with fail
  generalize hW : w.drewN _ = W0
  have B0 := Lib.hid (show Below w.heap.size w W0 from by rw [← hW]; exact ⟨rfl, rfl, rfl, Nat.le_refl _, fun _ _ => rfl⟩)
  have T0 := Lib.hid (HT.out.below B0.out)
  have E0 := Lib.hid (HE.out.keep (.of_below B0.out))
  clear hW e72 d5 HT
  go_cut [34] from 35 to 45 (fun s wx => Hid (MS w g rg d tb n Q ks kl ib l (fun _ => C0) wx))
  case first =>
    cases ib
    case false =>
      go_wp2_with fail
      go_meet
      exact Lib.hid ⟨E0.out, T0.out, .of_below B0.out⟩
    case true =>
      have hth := T0.out.there72
      go_upto_region 2 with (first
        | (refine wpList_store_mid (by rfl) 76 _ _ rfl g 0 zl.toArray rfl rfl hth hi76 zl_one ?_))
      have K2 := Lib.hid (show Kept w.heap.size g w (W0.setCells g 0 zl) from kept_setCells (.of_below B0.out) zl 0)
      have T2 := Lib.hid T0.out.reset
      have d5 : ((W0.setCells g 0 zl)).cell? ⟨d, 5, none⟩ = some (.bool true) := by
        have := (K2.out.blk HE.out.hd HE.out.hd.lt HE.out.n1).cell 5
        exact this
      generalize W0.setCells g 0 zl = W00 at *
      have e72 : W00.cell? ⟨g, 72, none⟩ = some (.bool false) := T2.out.imp
      have f72 : W00.frozen? ⟨g, 72, none⟩ = false := T2.out.frozen _
      go_wp2_with fail
      go_meet
      exact Lib.hid ⟨HE.out.keep (K2.out.setCell 72 _), T2.out.setIm true, K2.out.setCell 72 _⟩
  case rest =>
    have M1 := hcut
    clear hcut E0 T0 B0 HE
    obtain ⟨W1, rfl⟩ : ∃ W1 : World, W1 = wc := ⟨_, rfl⟩
    have y1 : W1.cell? ⟨d, 1, none⟩ = some (.slice (some ⟨tb, 0, none⟩) n n) := M1.out.e.hd.cell 1
    go_wp2_with fail
    clear y1
    go_loopw [9, 10, 56] (fun b a i wr => ∃ k bs es : Nat, k ≤ n ∧ i = .int .i64 k ∧ b = .int .i64 bs ∧ a = .int .i64 es ∧ Hid (SP n k Q bs es) ∧ Hid (Below W1.heap.size W1 wr)) (fun _ _ i _ => n - (intOf i).toNat)
    case atStart => exact ⟨0, n, n, Nat.zero_le _, rfl, rfl, rfl, Lib.hid (SP.zero n Q), Lib.hid (Below.refl _ _)⟩
    case round =>
      obtain ⟨k, bs, es, hk, rfl, rfl, rfl, HS, BB⟩ := hrel
      have V := Lib.hid (M1.out.e.hv.below BB.out M1.out.e.hv.lt)
      by_cases hlt : k < n
      · as_aux_lemma =>
        have p0 : (0 : Int) ≤ (k : Int) := by omega
        have p1 : (k : Int) < (n : Int) := by omega
        have x0 : wr.cell? ⟨tb, k * 7, none⟩ = some (.pointer none) := by have h9 := V.out.cell (i := k) (j := 0) hlt (by omega); rw [show k * 7 = (k) * 7 + 0 by omega]; exact h9
        have x1 : wr.cell? ⟨tb, k * 7 + 1, none⟩ = some (.string (tq (Q (k)))) := by have h9 := V.out.cell (i := k) (j := 1) hlt (by omega); exact h9
        have x2 : wr.cell? ⟨tb, k * 7 + 2, none⟩ = some (.int .i32 0) := by have h9 := V.out.cell (i := k) (j := 2) hlt (by omega); exact h9
        have x3 : wr.cell? ⟨tb, k * 7 + 3, none⟩ = some (.int .u32 0) := by have h9 := V.out.cell (i := k) (j := 3) hlt (by omega); exact h9
        have x4 : wr.cell? ⟨tb, k * 7 + 4, none⟩ = some (.int .u16 0) := by have h9 := V.out.cell (i := k) (j := 4) hlt (by omega); exact h9
        have x5 : wr.cell? ⟨tb, k * 7 + 5, none⟩ = some (.int .u8 (kq (Q (k)))) := by have h9 := V.out.cell (i := k) (j := 5) hlt (by omega); exact h9
        have x6 : wr.cell? ⟨tb, k * 7 + 6, none⟩ = some (.int .u8 0) := by have h9 := V.out.cell (i := k) (j := 6) hlt (by omega); exact h9
        have hl := V.out.lt
        have ne : ¬ tb = wr.heap.size := by omega
        have ne2 : ¬ wr.heap.size = tb := by omega
        go_upto_region 9 with fail
        have CB := Lib.hid (show Blk (wr.alloc (.cells #[.pointer none, .string (tq (Q k)), .int .i32 0, .int .u32 0, .int .u16 0, .int .u8 (kq (Q k)), .int .u8 0] 47)) wr.heap.size 47 #[.pointer none, .string (tq (Q k)), .int .i32 0, .int .u32 0, .int .u16 0, .int .u8 (kq (Q k)), .int .u8 0] from Blk.new wr 47 _)
        have RB := Lib.hid (show Below W1.heap.size W1 (wr.alloc (.cells #[.pointer none, .string (tq (Q k)), .int .i32 0, .int .u32 0, .int .u16 0, .int .u8 (kq (Q k)), .int .u8 0] 47)) from BB.out.alloc BB.out.size _)
        clear x0 x1 x2 x3 x4 x5 x6 ne ne2 hl V BB
        generalize wr.alloc (.cells #[.pointer none, .string (tq (Q k)), .int .i32 0, .int .u32 0, .int .u16 0, .int .u8 (kq (Q k)), .int .u8 0] 47) = W2 at *
        generalize wr.heap.size = cb at *
        have c5 : W2.cell? ⟨cb, 5, none⟩ = some (.int .u8 (kq (Q k))) := CB.out.cell 5
        by_cases h7 : Q k = 7
        · have ek : kq (Q k) = 24 := by rw [h7]; rfl
          rw [ek] at c5
          clear ek
          by_cases hb : bs = n
          · subst hb
            have HS2 := Lib.hid (HS.out.first hlt rfl h7)
            go_wp2_with fail
            go_roundw
            case rel => exact ⟨k + 1, k, k + 1, by omega, by go_num, rfl, by go_num, HS2, RB⟩
            case measure => simp [intOf]; omega
          · have hbn : ¬ (bs : Int) = (n : Int) := by omega
            have TW := Lib.hid (HS.out.second hlt hb h7)
            have M2 := Lib.hid (M1.out.below RB.out)
            have hth := M2.out.t.there72
            go_wp2_with (first
              | (refine wpList_store_mid (by rfl) 76 _ _ rfl g 0 zl.toArray rfl rfl hth hi76 zl_one ?_))
            first
              | refine bodyPost_end (results_none rfl _ _ _) rfl ?_
              | refine bodyPost_ret (results_none rfl _ _ _) rfl ?_
            exact ⟨rfl, .inl ⟨by rintro ⟨b, e, h⟩; exact h.1.not_two TW.out, M2.out.reset⟩⟩
        · have ek : (kq (Q k) == 24) = false := by
            have h8 := HQ.out k hlt
            rcases eight h8 with e | e | e | e | e | e | e | e
            all_goals first | (rw [e]; rfl) | exact absurd e h7
          have HS2 := Lib.hid (HS.out.other h7)
          generalize kq (Q k) = kk at *
          go_wp2_with fail
          go_roundw
          case rel => exact ⟨k + 1, bs, es, by omega, by go_num, rfl, rfl, HS2, RB⟩
          case measure => simp [intOf]; omega
      · obtain rfl : n = k := by omega
        clear V
        have M2 := Lib.hid (M1.out.below BB.out)
        clear M1 BB
        obtain ⟨W2, rfl⟩ : ∃ W2 : World, W2 = wr := ⟨_, rfl⟩
        have hle := HS.out.le (Nat.le_refl _)
        have b0 : (0 : Int) ≤ (bs : Int) := by omega
        have b1 : (bs : Int) ≤ (n : Int) := by omega
        have b2 : (0 : Int) ≤ (es : Int) := by omega
        have b3 : (es : Int) ≤ (n : Int) := by omega
        have NA := Lib.hid (show ∀ j, j < bs → Q j ≠ 7 from fun j hj => by
          rcases HS.out with ⟨_, _, h⟩ | ⟨_, _, _, h⟩
          · exact h j (by omega)
          · exact h j (by omega) (by omega))
        have NB := Lib.hid (show ∀ j, j < n - es → Q (es + j) ≠ 7 from fun j hj => by
          rcases HS.out with ⟨_, _, h⟩ | ⟨_, _, _, h⟩
          · exact h _ (by omega)
          · exact h _ (by omega) (by omega))
        have UB := Lib.hid (show Blk (W2.alloc (.cells #[.string ⟨#[]⟩, .int .u8 0] 73)) W2.heap.size 73 #[.string ⟨#[]⟩, .int .u8 (su Q 0 0 0)] from Blk.new W2 73 _)
        have BU := Lib.hid (show Below W2.heap.size W2 (W2.alloc (.cells #[.string ⟨#[]⟩, .int .u8 0] 73)) from (Below.refl _ _).alloc (Nat.le_refl _) _)
        go_wp2_with fail
        obtain ⟨gu, hgu⟩ : ∃ gu, W2.heap.size = gu := ⟨_, rfl⟩
        have GU := Lib.hid (show W2.heap.size ≤ gu from Nat.le_of_eq hgu)
        generalize W2.alloc (.cells #[.string ⟨#[]⟩, .int .u8 0] 73) = W3 at *
        rw [hgu] at UB
        simp only [hgu]
        clear hgu
        go_loopw [81] (fun i wr => ∃ k : Nat, k ≤ bs ∧ i = .int .i64 k ∧ Hid (Blk wr gu 73 #[.string ⟨#[]⟩, .int .u8 (su Q 0 0 k)]) ∧ Hid (Below W2.heap.size W2 wr)) (fun i _ => bs - (intOf i).toNat)
        case atStart => exact ⟨0, Nat.zero_le _, rfl, UB, BU⟩
        case round =>
          clear UB BU
          obtain ⟨k, hk, rfl, UB, BU⟩ := hrel
          by_cases hlt : k < bs
          · as_aux_lemma =>
            have p0 : (0 : Int) ≤ (k : Int) := by omega
            have p1 : (k : Int) < (bs : Int) := by omega
            have V := Lib.hid (M2.out.e.hv.below BU.out M2.out.e.hv.lt)
            have h7 : Q k < 7 := by
              have h8 := HQ.out (k) (by omega)
              have h9 : Q k ≠ 7 := NA.out k hlt
              omega
            have x0 : wr.cell? ⟨tb, k * 7, none⟩ = some (.pointer none) := by have h9 := V.out.cell (i := k) (j := 0) (by omega) (by omega); rw [show k * 7 = k * 7 + 0 by omega]; exact h9
            have x1 : wr.cell? ⟨tb, k * 7 + 1, none⟩ = some (.string (tq (Q k))) := by have h9 := V.out.cell (i := k) (j := 1) (by omega) (by omega); rw [show k * 7 + 1 = k * 7 + 1 by omega]; exact h9
            have x2 : wr.cell? ⟨tb, k * 7 + 2, none⟩ = some (.int .i32 0) := by have h9 := V.out.cell (i := k) (j := 2) (by omega) (by omega); rw [show k * 7 + 2 = k * 7 + 2 by omega]; exact h9
            have x3 : wr.cell? ⟨tb, k * 7 + 3, none⟩ = some (.int .u32 0) := by have h9 := V.out.cell (i := k) (j := 3) (by omega) (by omega); rw [show k * 7 + 3 = k * 7 + 3 by omega]; exact h9
            have x4 : wr.cell? ⟨tb, k * 7 + 4, none⟩ = some (.int .u16 0) := by have h9 := V.out.cell (i := k) (j := 4) (by omega) (by omega); rw [show k * 7 + 4 = k * 7 + 4 by omega]; exact h9
            have x5 : wr.cell? ⟨tb, k * 7 + 5, none⟩ = some (.int .u8 (kq (Q k))) := by have h9 := V.out.cell (i := k) (j := 5) (by omega) (by omega); rw [show k * 7 + 5 = k * 7 + 5 by omega]; exact h9
            have x6 : wr.cell? ⟨tb, k * 7 + 6, none⟩ = some (.int .u8 0) := by have h9 := V.out.cell (i := k) (j := 6) (by omega) (by omega); rw [show k * 7 + 6 = k * 7 + 6 by omega]; exact h9
            have hl := V.out.lt
            have hg := UB.out.lt
            have ne : ¬ tb = wr.heap.size := by omega
            have ne2 : ¬ wr.heap.size = tb := by omega
            have UB2 := Lib.hid (fun (ob : Obj) => show Blk (wr.alloc ob) gu 73 #[.string ⟨#[]⟩, .int .u8 (su Q 0 0 k)] from UB.out.alloc ob)
            have BU2 := Lib.hid (show Below W2.heap.size W2 (wr.alloc (.cells #[.pointer none, .string (tq (Q k)), .int .i32 0, .int .u32 0, .int .u16 0, .int .u8 (kq (Q k)), .int .u8 0] 47)) from BU.out.alloc BU.out.size _)
            have INC := Lib.hid (fun W (h : Blk W gu 73 #[.string ⟨#[]⟩, .int .u8 (su Q 0 0 k)]) => inc25q gu (Q k) _ W h7 h)
            go_upto_region 19 with fail
            have CB := Lib.hid (Blk.new wr 47 #[.pointer none, .string (tq (Q k)), .int .i32 0, .int .u32 0, .int .u16 0, .int .u8 (kq (Q k)), .int .u8 0])
            clear x0 x1 x2 x3 x4 x5 x6 ne ne2 hl V BU
            have UB := UB2.out (.cells #[.pointer none, .string (tq (Q k)), .int .i32 0, .int .u32 0, .int .u16 0, .int .u8 (kq (Q k)), .int .u8 0] 47)
            clear UB2
            generalize wr.alloc (.cells #[.pointer none, .string (tq (Q k)), .int .i32 0, .int .u32 0, .int .u16 0, .int .u8 (kq (Q k)), .int .u8 0] 47) = W7 at *
            generalize wr.heap.size = cb at *
            have y0 : W7.cell? ⟨cb, 0, none⟩ = some (.pointer none) := CB.out.cell 0
            have y1 : W7.cell? ⟨cb, 1, none⟩ = some (.string (tq (Q k))) := CB.out.cell 1
            have y2 : W7.cell? ⟨cb, 2, none⟩ = some (.int .i32 0) := CB.out.cell 2
            have y3 : W7.cell? ⟨cb, 3, none⟩ = some (.int .u32 0) := CB.out.cell 3
            have y4 : W7.cell? ⟨cb, 4, none⟩ = some (.int .u16 0) := CB.out.cell 4
            have y5 : W7.cell? ⟨cb, 5, none⟩ = some (.int .u8 (kq (Q k))) := CB.out.cell 5
            have y6 : W7.cell? ⟨cb, 6, none⟩ = some (.int .u8 0) := CB.out.cell 6
            go_wp2_with fail
            refine (INC.out _ UB).mono ?_
            rintro e W8 ⟨rfl, hb8, hk8⟩
            have U8 := Lib.hid (show Blk W8 gu 73 #[.string ⟨#[]⟩, .int .u8 (su Q 0 0 (k + 1))] from by rw [su, Nat.zero_add]; exact hb8)
            have B8 := Lib.hid (show Below W2.heap.size W2 W8 from BU2.out.trans (hk8.below BU2.out.size GU.out))
            clear y0 y1 y2 y3 y4 y5 y6 hb8 hk8 UB BU2 CB
            go_wp2_with fail
            go_roundw
            case rel => exact ⟨k + 1, by omega, by go_num, U8, B8⟩
            case measure => simp [intOf]; omega
          · obtain hkk : bs = k := by omega
            subst hkk
            obtain ⟨m, HM⟩ : ∃ m, Hid (n - es = m) := ⟨_, Lib.hid rfl⟩
            have hme : es + m = n := by have := HM.out; omega
            rw [HM.out] at NB
            go_upto_region 21 with fail
            obtain ⟨W4, rfl⟩ : ∃ W4 : World, W4 = wr := ⟨_, rfl⟩
            go_cut [90, 91, 92] from 88 to 92 (fun s t i wx => ∃ x : Nat, s = .slice (some ⟨tb, x, none⟩) m m ∧ t = .int .i64 ((m : Nat) : Int) ∧ i = .int .i64 0 ∧ Hid (0 < m → x = es * 7) ∧ wx = W4)
            case first =>
              by_cases hne : n = es
              · clear hme
                subst hne
                go_wp2_with fail
                go_meet
                exact ⟨0, by rw [← HM.out, Nat.sub_self], by rw [← HM.out, Nat.sub_self]; rfl, rfl, Lib.hid (fun h => absurd h (by have := HM.out; omega)), rfl⟩
              · go_wp2_with fail
                go_meet
                exact ⟨es * 7, by rw [HM.out], by rw [HM.out], rfl, Lib.hid (fun _ => rfl), rfl⟩
            case rest =>
              obtain ⟨x, rfl, rfl, rfl, HX, hwc⟩ := hcut
              have hwc := hwc.symm
              subst hwc
              go_wp2_with fail
              go_loopw [92] (fun i wr => ∃ k : Nat, k ≤ m ∧ i = .int .i64 k ∧ Hid (Blk wr gu 73 #[.string ⟨#[]⟩, .int .u8 (su Q es (su Q 0 0 bs) k)]) ∧ Hid (Below W2.heap.size W2 wr)) (fun i _ => m - (intOf i).toNat)
              case atStart => exact ⟨0, Nat.zero_le _, rfl, UB, BU⟩
              case round =>
                clear UB BU
                obtain ⟨k, hk, rfl, UB, BU⟩ := hrel
                by_cases hlt : k < m
                · as_aux_lemma =>
                  have p0 : (0 : Int) ≤ (k : Int) := by omega
                  have p1 : (k : Int) < (m : Int) := by omega
                  have V := Lib.hid (M2.out.e.hv.below BU.out M2.out.e.hv.lt)
                  have h7 : Q (es + k) < 7 := by
                    have h8 := HQ.out (es + k) (by omega)
                    have h9 : Q (es + k) ≠ 7 := NB.out k hlt
                    omega
                  obtain rfl := HX.out (by omega)
                  have x0 : wr.cell? ⟨tb, es * 7 + k * 7, none⟩ = some (.pointer none) := by have h9 := V.out.cell (i := es + k) (j := 0) (by omega) (by omega); rw [show es * 7 + k * 7 = (es + k) * 7 + 0 by omega]; exact h9
                  have x1 : wr.cell? ⟨tb, es * 7 + k * 7 + 1, none⟩ = some (.string (tq (Q (es + k)))) := by have h9 := V.out.cell (i := es + k) (j := 1) (by omega) (by omega); rw [show es * 7 + k * 7 + 1 = (es + k) * 7 + 1 by omega]; exact h9
                  have x2 : wr.cell? ⟨tb, es * 7 + k * 7 + 2, none⟩ = some (.int .i32 0) := by have h9 := V.out.cell (i := es + k) (j := 2) (by omega) (by omega); rw [show es * 7 + k * 7 + 2 = (es + k) * 7 + 2 by omega]; exact h9
                  have x3 : wr.cell? ⟨tb, es * 7 + k * 7 + 3, none⟩ = some (.int .u32 0) := by have h9 := V.out.cell (i := es + k) (j := 3) (by omega) (by omega); rw [show es * 7 + k * 7 + 3 = (es + k) * 7 + 3 by omega]; exact h9
                  have x4 : wr.cell? ⟨tb, es * 7 + k * 7 + 4, none⟩ = some (.int .u16 0) := by have h9 := V.out.cell (i := es + k) (j := 4) (by omega) (by omega); rw [show es * 7 + k * 7 + 4 = (es + k) * 7 + 4 by omega]; exact h9
                  have x5 : wr.cell? ⟨tb, es * 7 + k * 7 + 5, none⟩ = some (.int .u8 (kq (Q (es + k)))) := by have h9 := V.out.cell (i := es + k) (j := 5) (by omega) (by omega); rw [show es * 7 + k * 7 + 5 = (es + k) * 7 + 5 by omega]; exact h9
                  have x6 : wr.cell? ⟨tb, es * 7 + k * 7 + 6, none⟩ = some (.int .u8 0) := by have h9 := V.out.cell (i := es + k) (j := 6) (by omega) (by omega); rw [show es * 7 + k * 7 + 6 = (es + k) * 7 + 6 by omega]; exact h9
                  have hl := V.out.lt
                  have hg := UB.out.lt
                  have ne : ¬ tb = wr.heap.size := by omega
                  have ne2 : ¬ wr.heap.size = tb := by omega
                  have UB2 := Lib.hid (fun (ob : Obj) => show Blk (wr.alloc ob) gu 73 #[.string ⟨#[]⟩, .int .u8 (su Q es (su Q 0 0 bs) k)] from UB.out.alloc ob)
                  have BU2 := Lib.hid (show Below W2.heap.size W2 (wr.alloc (.cells #[.pointer none, .string (tq (Q (es + k))), .int .i32 0, .int .u32 0, .int .u16 0, .int .u8 (kq (Q (es + k))), .int .u8 0] 47)) from BU.out.alloc BU.out.size _)
                  have INC := Lib.hid (fun W (h : Blk W gu 73 #[.string ⟨#[]⟩, .int .u8 (su Q es (su Q 0 0 bs) k)]) => inc25q gu (Q (es + k)) _ W h7 h)
                  go_upto_region 24 with fail
                  have CB := Lib.hid (Blk.new wr 47 #[.pointer none, .string (tq (Q (es + k))), .int .i32 0, .int .u32 0, .int .u16 0, .int .u8 (kq (Q (es + k))), .int .u8 0])
                  clear x0 x1 x2 x3 x4 x5 x6 ne ne2 hl V BU
                  have UB := UB2.out (.cells #[.pointer none, .string (tq (Q (es + k))), .int .i32 0, .int .u32 0, .int .u16 0, .int .u8 (kq (Q (es + k))), .int .u8 0] 47)
                  clear UB2
                  generalize wr.alloc (.cells #[.pointer none, .string (tq (Q (es + k))), .int .i32 0, .int .u32 0, .int .u16 0, .int .u8 (kq (Q (es + k))), .int .u8 0] 47) = W7 at *
                  generalize wr.heap.size = cb at *
                  have y0 : W7.cell? ⟨cb, 0, none⟩ = some (.pointer none) := CB.out.cell 0
                  have y1 : W7.cell? ⟨cb, 1, none⟩ = some (.string (tq (Q (es + k)))) := CB.out.cell 1
                  have y2 : W7.cell? ⟨cb, 2, none⟩ = some (.int .i32 0) := CB.out.cell 2
                  have y3 : W7.cell? ⟨cb, 3, none⟩ = some (.int .u32 0) := CB.out.cell 3
                  have y4 : W7.cell? ⟨cb, 4, none⟩ = some (.int .u16 0) := CB.out.cell 4
                  have y5 : W7.cell? ⟨cb, 5, none⟩ = some (.int .u8 (kq (Q (es + k)))) := CB.out.cell 5
                  have y6 : W7.cell? ⟨cb, 6, none⟩ = some (.int .u8 0) := CB.out.cell 6
                  go_wp2_with fail
                  refine (INC.out _ UB).mono ?_
                  rintro e W8 ⟨rfl, hb8, hk8⟩
                  have U8 := Lib.hid (show Blk W8 gu 73 #[.string ⟨#[]⟩, .int .u8 (su Q es (su Q 0 0 bs) (k + 1))] from by rw [su]; exact hb8)
                  have B8 := Lib.hid (show Below W2.heap.size W2 W8 from BU2.out.trans (hk8.below BU2.out.size GU.out))
                  clear y0 y1 y2 y3 y4 y5 y6 hb8 hk8 UB BU2 CB
                  go_wp2_with fail
                  go_roundw
                  case rel => exact ⟨k + 1, by omega, by go_num, U8, B8⟩
                  case measure => simp [intOf]; omega
                · obtain hkk : m = k := by omega
                  subst hkk
                  have M3 := Lib.hid (M2.out.below BU.out)
                  obtain ⟨st, hst⟩ : ∃ st, su Q es (su Q 0 0 bs) m = st := ⟨_, rfl⟩
                  rw [hst] at UB
                  have ST2 := Lib.hid (show st = 0 ∨ st = 2 from hst ▸ su_two _ _ _ (su_two _ _ _ (.inl rfl) _) _)
                  have STZ := Lib.hid hst
                  have GUN := Lib.hid (show gu ≠ g from by have h1 := M2.out.t.lt; have h2 := GU.out; omega)
                  clear M2 BU GU HX hst
                  obtain ⟨W5, rfl⟩ : ∃ W5 : World, W5 = wr := ⟨_, rfl⟩
                  have E1 := Lib.hid (expand_any (some ⟨tb, 0, none⟩) bs n ⟨#[]⟩ (fun i => kq (Q i)) (fun i => tq (Q i)) (fun _ => 0) (fun _ => 0) W5 (by have := tr_at (a := 0) (m := bs) M3.out.e.hv (by omega) (fun i j _ _ => by rw [Nat.zero_add]); rwa [Nat.zero_mul] at this) hle.1 (by omega))
                  go_upto_region 26 with fail
                  go_cut [18, 19] from 99 to 105 (fun s t wx => ∃ (C : Array Value) (f : Bool) (b : Nat), s = .pointer (some ⟨b, 0, none⟩) ∧ t = .bool f ∧ Hid (Blk wx b 86 C ∧ C.size = 28) ∧ Hid (XF f C bs Q) ∧ Hid (Below W5.heap.size W5 wx))
                  case first =>
                    go_wp2_with fail
                    refine E1.out.mono ?_
                    intro e W6 hx
                    obtain ⟨C, f, rfl, hC, hC1, hf, hb⟩ := exp_form (fun i hi => HQ.out i (by omega)) hx
                    have FN := Lib.hid (fill_new W6 C hC)
                    have HB := Lib.hid (hb.trans (FN.out.2.mono hb.size))
                    have HF := Lib.hid hf
                    clear hx hb hf E1
                    unfold z28 at FN HB
                    go_wp2_with (refine wpList_store_mid rfl 86 (.tmp 18) (.tmp 104) rfl W6.heap.size 0 C rfl rfl (by rw [hC]; exact Blk.there (Blk.new W6 86 z28)) (by rw [hC]; exact info86) hC1 ?_)
                    go_meet
                    exact ⟨C, f, W6.heap.size, rfl, rfl, Lib.hid ⟨FN.out.1, hC⟩, HF, HB⟩
                  case rest =>
                    obtain ⟨C, f1, b1, rfl, rfl, HC, HF, HB⟩ := hcut
                    have M4 := Lib.hid (M3.out.below HB.out)
                    have UB4 := Lib.hid (UB.out.below HB.out UB.out.lt)
                    clear M3 UB HB E1
                    obtain ⟨W6, rfl⟩ : ∃ W6 : World, W6 = wc := ⟨_, rfl⟩
                    have E2 := Lib.hid (show ∀ x, (0 < m → x = es * 7) → Calls Tryd.prog 30 #[.slice (some ⟨tb, x, none⟩) m m, .string ⟨#[]⟩] W6 (ExpP m ⟨#[]⟩ (fun i => kq (Q (es + i))) (fun i => tq (Q (es + i))) (fun _ => 0) (fun _ => 0) W6) from fun x hx =>
                      expand_any (some ⟨tb, x, none⟩) m m ⟨#[]⟩ (fun i => kq (Q (es + i))) (fun i => tq (Q (es + i))) (fun _ => 0) (fun _ => 0) W6 (fun h0 => by rw [hx h0]; exact tr_at (a := es) (m := m) M4.out.e.hv (by omega) (fun i j _ _ => rfl) h0) (Nat.le_refl _) (by omega))
                    go_upto_region 27 with fail
                    go_cut [20, 21] from 106 to 112 (fun s t wx => ∃ (C2 : Array Value) (f : Bool) (b : Nat), s = .pointer (some ⟨b, 0, none⟩) ∧ t = .bool f ∧ Hid (Blk wx b 86 C2 ∧ C2.size = 28) ∧ Hid (b ≠ g) ∧ Hid (XF f C2 m (fun i => Q (es + i))) ∧ Hid (Below W6.heap.size W6 wx))
                    case first =>
                      by_cases hne : n = es
                      case' pos =>
                        have E3 := Lib.hid (E2.out 0 (fun h => absurd h (by omega)))
                        have HZ := Lib.hid (show m = 0 by omega)
                        clear E2 hme
                        subst hne
                        rw [HZ.out] at E3
                        go_wp2_with fail
                        refine E3.out.mono ?_
                        intro e W7 hx
                        rw [← HZ.out] at hx
                        obtain ⟨C2, f, rfl, hC, hC1, hf, hb⟩ := exp_form (fun i hi => absurd hi (by have := HZ.out; omega)) hx
                      case' neg =>
                        have E3 := Lib.hid (E2.out (es * 7) (fun _ => rfl))
                        clear E2
                        rw [← HM.out] at E3
                        go_wp2_with fail
                        rw [HM.out] at E3
                        rw [HM.out]
                        refine E3.out.mono ?_
                        intro e W7 hx
                        obtain ⟨C2, f, rfl, hC, hC1, hf, hb⟩ := exp_form (fun i hi => HQ.out (es + i) (by omega)) hx
                      all_goals
                        have FN := Lib.hid (fill_new W7 C2 hC)
                        have HB2 := Lib.hid (hb.trans (FN.out.2.mono hb.size))
                        have HNG := Lib.hid (show W7.heap.size ≠ g from by have h1 := M4.out.t.lt; have h2 := hb.size; omega)
                        have HF2 := Lib.hid hf
                        clear hx hb hf E3
                        unfold z28 at FN HB2
                        go_wp2_with (refine wpList_store_mid rfl 86 (.tmp 20) (.tmp 111) rfl W7.heap.size 0 C2 rfl rfl (by rw [hC]; exact Blk.there (Blk.new W7 86 z28)) (by rw [hC]; exact info86) hC1 ?_)
                        go_meet
                        exact ⟨C2, f, W7.heap.size, rfl, rfl, Lib.hid ⟨FN.out.1, hC⟩, HNG, HF2, HB2⟩
                    case rest =>
                      obtain ⟨C2, f2, b2, rfl, rfl, HC2, HGE2, HF2, HB2⟩ := hcut
                      have M5 := Lib.hid (M4.out.below HB2.out)
                      have BN2 := Lib.hid (show b2 ≠ g from HGE2.out)
                      have UB5 := Lib.hid (UB4.out.below HB2.out UB4.out.lt)
                      have HC1 := Lib.hid (And.intro (HC.out.1.below HB2.out HC.out.1.lt) HC.out.2)
                      clear M4 UB4 HB2 E2 HC
                      obtain ⟨W7, rfl⟩ : ∃ W7 : World, W7 = wc := ⟨_, rfl⟩
                      go_upto_region 28 with fail
                      go_cut [123] from 113 to 123 (fun s wx => s = .bool (!f1 || (decide (bs < es) && !f2)) ∧ wx = W7)
                      case first =>
                        cases f1
                        · go_wp2_with fail
                          go_meet
                          exact ⟨rfl, rfl⟩
                        · by_cases hbe : bs < es
                          · have hbe' : (bs : Int) < (es : Int) := by omega
                            cases f2 <;> (go_wp2_with fail; go_meet; exact ⟨by simp [hbe], rfl⟩)
                          · have hbe' : ¬ (bs : Int) < (es : Int) := by omega
                            go_wp2_with fail
                            go_meet
                            exact ⟨by simp [hbe], rfl⟩
                      case rest =>
                        obtain ⟨rfl, hwc⟩ := hcut
                        have hwc := hwc.symm
                        subst hwc
                        cases hcond : (!f1 || (decide (bs < es) && !f2))
                        case true =>
                          have hth := M5.out.t.there72
                          go_wp2_with (first
                            | (refine wpList_store_mid (by rfl) 76 _ _ rfl g 0 zl.toArray rfl rfl hth hi76 zl_one ?_))
                          first
                            | refine bodyPost_end (results_none rfl _ _ _) rfl ?_
                            | refine bodyPost_ret (results_none rfl _ _ _) rfl ?_
                          refine ⟨rfl, .inl ⟨?_, M5.out.reset⟩⟩
                          rintro ⟨b, e, h⟩
                          obtain ⟨e1, e2⟩ := h.1.uniq HS.out
                          subst e1 e2
                          have small : ∀ i, i < n → i ≠ b ∨ b = n → Q i ≠ 7 := fun i hi hne => by
                            rcases HS.out with ⟨_, _, h⟩ | ⟨h0, _, _, h⟩
                            · exact h i hi
                            · exact h i hi (by omega)
                          cases f1
                          · exact HF.out.2 rfl ⟨h.2.1.1, h.2.1.2, fun i hi => by
                              have h1 := HQ.out i (by omega)
                              have h2 := NA.out i hi
                              have h3 := h.2.2.2 i (by omega)
                              omega⟩
                          · simp only [Bool.not_true, Bool.false_or, Bool.and_eq_true, decide_eq_true_eq, Bool.not_eq_true'] at hcond
                            obtain ⟨h1, rfl⟩ := hcond
                            obtain ⟨h2, h3⟩ := h.2.2.1 h1
                            exact HF2.out.2 rfl ⟨by omega, by omega, fun i hi => by
                              show Q (e + i) < 6
                              have h1 := HQ.out (e + i) (by omega)
                              have h2 := NB.out i hi
                              have h3 := h.2.2.2 (e + i) (by omega)
                              omega⟩
                        case false =>
                          obtain ⟨rfl, hcf⟩ : f1 = true ∧ (bs < es → f2 = true) := by
                            cases f1
                            · simp at hcond
                            · refine ⟨rfl, fun h => ?_⟩
                              cases f2
                              · simp [h] at hcond
                              · rfl
                          have HCF := Lib.hid hcf
                          have A1 := Lib.hid (HF.out.1 rfl)
                          obtain ⟨CL, hCL⟩ : ∃ CL : List Value, C = CL.toArray := ⟨C.toList, by simp⟩
                          subst hCL
                          have hR := Lib.hid (show W7.rangeAt b1 0 CL from fun j v hj => by
                            rw [Nat.zero_add, HC1.out.1.cell]
                            simpa using hj)
                          have hi86 : (Tryd.prog.info? 86).map (·.size) = some CL.length := by rw [show CL.length = 28 by simpa using HC1.out.2]; exact info86
                          have GN := Lib.hid (show gu ≠ g ∧ b2 ≠ g from ⟨GUN.out, BN2.out⟩)
                          clear hcf hcond hwc
                          have hix0 : ∀ W : World, (Instr.index 86 (.agg CL.toArray) (.int .i64 0)).run Tryd.prog W = .ok (.agg #[.pointer none, .string (tq (qa Q bs 0)), .int .i32 0, .int .u32 0, .int .u16 0, .int .u8 (kq (qa Q bs 0)), .int .u8 0]) W := fun W => by rw [A1.out.2]; exact jx0 _ _ _ _ _ _ _ _ W
                          have hix1 : ∀ W : World, (Instr.index 86 (.agg CL.toArray) (.int .i64 1)).run Tryd.prog W = .ok (.agg #[.pointer none, .string (tq (qa Q bs 1)), .int .i32 0, .int .u32 0, .int .u16 0, .int .u8 (kq (qa Q bs 1)), .int .u8 0]) W := fun W => by rw [A1.out.2]; exact jx1 _ _ _ _ _ _ _ _ W
                          have hix2 : ∀ W : World, (Instr.index 86 (.agg CL.toArray) (.int .i64 2)).run Tryd.prog W = .ok (.agg #[.pointer none, .string (tq (qa Q bs 2)), .int .i32 0, .int .u32 0, .int .u16 0, .int .u8 (kq (qa Q bs 2)), .int .u8 0]) W := fun W => by rw [A1.out.2]; exact jx2 _ _ _ _ _ _ _ _ W
                          have hix3 : ∀ W : World, (Instr.index 86 (.agg CL.toArray) (.int .i64 3)).run Tryd.prog W = .ok (.agg #[.pointer none, .string (tq (qa Q bs 3)), .int .i32 0, .int .u32 0, .int .u16 0, .int .u8 (kq (qa Q bs 3)), .int .u8 0]) W := fun W => by rw [A1.out.2]; exact jx3 _ _ _ _ _ _ _ _ W
                          have M50 := Lib.hid (show MS w g rg d tb n Q ks kl ib l (S1 Q bs st 0) W7 from by rw [S1.zero]; exact M5.out)
                          go_wp2_with (refine wpList_load_mid rfl 86 _ rfl b1 0 rfl CL _ hR.out Tryd.underlying86 rfl hi86 ?_)
                          clear hi86
                          go_loopw [129] (fun i wr => ∃ k : Nat, k ≤ 4 ∧ i = .int .i64 k ∧ Hid (MS w g rg d tb n Q ks kl ib l (S1 Q bs st k) wr) ∧ Hid (Blk wr gu 73 #[.string ⟨#[]⟩, .int .u8 st] ∧ Blk wr b2 86 C2)) (fun i _ => 4 - (intOf i).toNat)
                          case atStart => exact ⟨0, by omega, rfl, M50, Lib.hid ⟨UB5.out, HC2.out.1⟩⟩
                          case round =>
                            clear M50 M5 UB5 HC1
                            obtain ⟨k, hk, rfl, MM, BU⟩ := hrel
                            by_cases hlt4 : k < 4
                            · rcases fourI hlt4 with rfl | rfl | rfl | rfl
                              · rw [show ((0 : Nat) : Int) = 0 from rfl]
                                obtain ⟨tk, HTK⟩ : ∃ tk, Hid (tq (qa Q bs 0) = tk) := ⟨_, Lib.hid rfl⟩
                                obtain ⟨kk, HKK⟩ : ∃ kk, Hid (kq (qa Q bs 0) = kk) := ⟨_, Lib.hid rfl⟩
                                have hx := hix0
                                rw [HTK.out, HKK.out] at hx
                                clear hix0 hix1 hix2 hix3
                                have UW := Lib.hid (show Blk (wr.alloc (.cells #[.pointer none, .string tk, .int .i32 0, .int .u32 0, .int .u16 0, .int .u8 kk, .int .u8 0] 47)) gu 73 #[.string ⟨#[]⟩, .int .u8 st] ∧ Blk (wr.alloc (.cells #[.pointer none, .string tk, .int .i32 0, .int .u32 0, .int .u16 0, .int .u8 kk, .int .u8 0] 47)) b2 86 C2 from ⟨BU.out.1.alloc _, BU.out.2.alloc _⟩)
                                have MW := Lib.hid (MM.out.below ((Below.refl wr.heap.size wr).alloc (Nat.le_refl _) (.cells #[.pointer none, .string tk, .int .i32 0, .int .u32 0, .int .u16 0, .int .u8 kk, .int .u8 0] 47)))
                                have CB := Lib.hid (Blk.new wr 47 #[.pointer none, .string tk, .int .i32 0, .int .u32 0, .int .u16 0, .int .u8 kk, .int .u8 0])
                                have K26 := Lib.hid (show kk ≠ 26 from HKK.out ▸ nk26 (qa Q bs 0))
                                go_upto_region 33 with fail
                                clear hx BU MM
                                generalize wr.alloc (.cells #[.pointer none, .string tk, .int .i32 0, .int .u32 0, .int .u16 0, .int .u8 kk, .int .u8 0] 47) = W8 at *
                                generalize wr.heap.size = cb at *
                                have y0 : W8.cell? ⟨cb, 0, none⟩ = some (.pointer none) := CB.out.cell 0
                                have y1 : W8.cell? ⟨cb, 1, none⟩ = some (.string tk) := CB.out.cell 1
                                have y2 : W8.cell? ⟨cb, 2, none⟩ = some (.int .i32 0) := CB.out.cell 2
                                have y3 : W8.cell? ⟨cb, 3, none⟩ = some (.int .u32 0) := CB.out.cell 3
                                have y4 : W8.cell? ⟨cb, 4, none⟩ = some (.int .u16 0) := CB.out.cell 4
                                have y5 : W8.cell? ⟨cb, 5, none⟩ = some (.int .u8 kk) := CB.out.cell 5
                                have y6 : W8.cell? ⟨cb, 6, none⟩ = some (.int .u8 0) := CB.out.cell 6
                                have z0 : W8.cell? ⟨gu, 0, none⟩ = some (.string ⟨#[]⟩) := UW.out.1.cell 0
                                have z1 : W8.cell? ⟨gu, 1, none⟩ = some (.int .u8 st) := UW.out.1.cell 1
                                go_upto_if 135 with fail
                                go_cut [136] from 135 to 136 (fun s wx => wx = W8)
                                case first =>
                                  rcases ST2.out with h | h
                                  · have h' : (st == 0) = true := by rw [h]; rfl
                                    clear h
                                    rw [h']
                                    clear h'
                                    go_wp2_with fail
                                    refine (turn26 cb kk _ K26.out y5).mono ?_
                                    rintro e w' ⟨rfl, rfl⟩
                                    go_wp2_with fail
                                    go_meet
                                    first | rfl | trivial
                                  · have h' : (st == 0) = false := by rw [h]; rfl
                                    clear h
                                    rw [h']
                                    clear h'
                                    go_wp2_with fail
                                    go_meet
                                    first | rfl | trivial
                                case rest =>
                                  have hwc := hcut.symm
                                  clear hcut
                                  subst hwc
                                  go_wp2_with fail
                                  refine (upd28 g 0 ⟨tk, kk, tk, kk, ⟨#[]⟩, st, (nr : Int) - 1, false⟩ (S1 Q bs st 0) ib _ _ _ _ (by omega) MW.out.t (by unfold S1; rw [if_neg (by omega)]; rfl)).mono ?_
                                  rintro e W9 ⟨rfl, ht, hk9⟩
                                  have M9 := Lib.hid (MW.out.kept hk9 (S' := S1 Q bs st (0 + 1)) (by rw [← S1.step, HTK.out, HKK.out]; rw [show (nr : Int) - 1 = 0 by have := HNR.out; omega] at ht; exact ht))
                                  have B9 := Lib.hid (show Blk W9 gu 73 #[.string ⟨#[]⟩, .int .u8 st] ∧ Blk W9 b2 86 C2 from ⟨hk9.blk UW.out.1 UW.out.1.lt GN.out.1, hk9.blk UW.out.2 UW.out.2.lt GN.out.2⟩)
                                  clear y0 y1 y2 y3 y4 y5 y6 z0 z1 ht hk9 UW MW CB
                                  go_wp2_with fail
                                  go_roundw
                                  case rel => exact ⟨0 + 1, by omega, by go_num, M9, B9⟩
                                  case measure => simp [intOf]
                              · rw [show ((1 : Nat) : Int) = 1 from rfl]
                                obtain ⟨tk, HTK⟩ : ∃ tk, Hid (tq (qa Q bs 1) = tk) := ⟨_, Lib.hid rfl⟩
                                obtain ⟨kk, HKK⟩ : ∃ kk, Hid (kq (qa Q bs 1) = kk) := ⟨_, Lib.hid rfl⟩
                                have hx := hix1
                                rw [HTK.out, HKK.out] at hx
                                clear hix0 hix1 hix2 hix3
                                have UW := Lib.hid (show Blk (wr.alloc (.cells #[.pointer none, .string tk, .int .i32 0, .int .u32 0, .int .u16 0, .int .u8 kk, .int .u8 0] 47)) gu 73 #[.string ⟨#[]⟩, .int .u8 st] ∧ Blk (wr.alloc (.cells #[.pointer none, .string tk, .int .i32 0, .int .u32 0, .int .u16 0, .int .u8 kk, .int .u8 0] 47)) b2 86 C2 from ⟨BU.out.1.alloc _, BU.out.2.alloc _⟩)
                                have MW := Lib.hid (MM.out.below ((Below.refl wr.heap.size wr).alloc (Nat.le_refl _) (.cells #[.pointer none, .string tk, .int .i32 0, .int .u32 0, .int .u16 0, .int .u8 kk, .int .u8 0] 47)))
                                have CB := Lib.hid (Blk.new wr 47 #[.pointer none, .string tk, .int .i32 0, .int .u32 0, .int .u16 0, .int .u8 kk, .int .u8 0])
                                have K26 := Lib.hid (show kk ≠ 26 from HKK.out ▸ nk26 (qa Q bs 1))
                                go_upto_region 33 with fail
                                clear hx BU MM
                                generalize wr.alloc (.cells #[.pointer none, .string tk, .int .i32 0, .int .u32 0, .int .u16 0, .int .u8 kk, .int .u8 0] 47) = W8 at *
                                generalize wr.heap.size = cb at *
                                have y0 : W8.cell? ⟨cb, 0, none⟩ = some (.pointer none) := CB.out.cell 0
                                have y1 : W8.cell? ⟨cb, 1, none⟩ = some (.string tk) := CB.out.cell 1
                                have y2 : W8.cell? ⟨cb, 2, none⟩ = some (.int .i32 0) := CB.out.cell 2
                                have y3 : W8.cell? ⟨cb, 3, none⟩ = some (.int .u32 0) := CB.out.cell 3
                                have y4 : W8.cell? ⟨cb, 4, none⟩ = some (.int .u16 0) := CB.out.cell 4
                                have y5 : W8.cell? ⟨cb, 5, none⟩ = some (.int .u8 kk) := CB.out.cell 5
                                have y6 : W8.cell? ⟨cb, 6, none⟩ = some (.int .u8 0) := CB.out.cell 6
                                have z0 : W8.cell? ⟨gu, 0, none⟩ = some (.string ⟨#[]⟩) := UW.out.1.cell 0
                                have z1 : W8.cell? ⟨gu, 1, none⟩ = some (.int .u8 st) := UW.out.1.cell 1
                                go_upto_if 135 with fail
                                go_cut [136] from 135 to 136 (fun s wx => wx = W8)
                                case first =>
                                  rcases ST2.out with h | h
                                  · have h' : (st == 0) = true := by rw [h]; rfl
                                    clear h
                                    rw [h']
                                    clear h'
                                    go_wp2_with fail
                                    refine (turn26 cb kk _ K26.out y5).mono ?_
                                    rintro e w' ⟨rfl, rfl⟩
                                    go_wp2_with fail
                                    go_meet
                                    first | rfl | trivial
                                  · have h' : (st == 0) = false := by rw [h]; rfl
                                    clear h
                                    rw [h']
                                    clear h'
                                    go_wp2_with fail
                                    go_meet
                                    first | rfl | trivial
                                case rest =>
                                  have hwc := hcut.symm
                                  clear hcut
                                  subst hwc
                                  go_wp2_with fail
                                  refine (upd28 g 1 ⟨tk, kk, tk, kk, ⟨#[]⟩, st, (nr : Int) - 1, false⟩ (S1 Q bs st 1) ib _ _ _ _ (by omega) MW.out.t (by unfold S1; rw [if_neg (by omega)]; rfl)).mono ?_
                                  rintro e W9 ⟨rfl, ht, hk9⟩
                                  have M9 := Lib.hid (MW.out.kept hk9 (S' := S1 Q bs st (1 + 1)) (by rw [← S1.step, HTK.out, HKK.out]; rw [show (nr : Int) - 1 = 0 by have := HNR.out; omega] at ht; exact ht))
                                  have B9 := Lib.hid (show Blk W9 gu 73 #[.string ⟨#[]⟩, .int .u8 st] ∧ Blk W9 b2 86 C2 from ⟨hk9.blk UW.out.1 UW.out.1.lt GN.out.1, hk9.blk UW.out.2 UW.out.2.lt GN.out.2⟩)
                                  clear y0 y1 y2 y3 y4 y5 y6 z0 z1 ht hk9 UW MW CB
                                  go_wp2_with fail
                                  go_roundw
                                  case rel => exact ⟨1 + 1, by omega, by go_num, M9, B9⟩
                                  case measure => simp [intOf]
                              · rw [show ((2 : Nat) : Int) = 2 from rfl]
                                obtain ⟨tk, HTK⟩ : ∃ tk, Hid (tq (qa Q bs 2) = tk) := ⟨_, Lib.hid rfl⟩
                                obtain ⟨kk, HKK⟩ : ∃ kk, Hid (kq (qa Q bs 2) = kk) := ⟨_, Lib.hid rfl⟩
                                have hx := hix2
                                rw [HTK.out, HKK.out] at hx
                                clear hix0 hix1 hix2 hix3
                                have UW := Lib.hid (show Blk (wr.alloc (.cells #[.pointer none, .string tk, .int .i32 0, .int .u32 0, .int .u16 0, .int .u8 kk, .int .u8 0] 47)) gu 73 #[.string ⟨#[]⟩, .int .u8 st] ∧ Blk (wr.alloc (.cells #[.pointer none, .string tk, .int .i32 0, .int .u32 0, .int .u16 0, .int .u8 kk, .int .u8 0] 47)) b2 86 C2 from ⟨BU.out.1.alloc _, BU.out.2.alloc _⟩)
                                have MW := Lib.hid (MM.out.below ((Below.refl wr.heap.size wr).alloc (Nat.le_refl _) (.cells #[.pointer none, .string tk, .int .i32 0, .int .u32 0, .int .u16 0, .int .u8 kk, .int .u8 0] 47)))
                                have CB := Lib.hid (Blk.new wr 47 #[.pointer none, .string tk, .int .i32 0, .int .u32 0, .int .u16 0, .int .u8 kk, .int .u8 0])
                                have K26 := Lib.hid (show kk ≠ 26 from HKK.out ▸ nk26 (qa Q bs 2))
                                go_upto_region 33 with fail
                                clear hx BU MM
                                generalize wr.alloc (.cells #[.pointer none, .string tk, .int .i32 0, .int .u32 0, .int .u16 0, .int .u8 kk, .int .u8 0] 47) = W8 at *
                                generalize wr.heap.size = cb at *
                                have y0 : W8.cell? ⟨cb, 0, none⟩ = some (.pointer none) := CB.out.cell 0
                                have y1 : W8.cell? ⟨cb, 1, none⟩ = some (.string tk) := CB.out.cell 1
                                have y2 : W8.cell? ⟨cb, 2, none⟩ = some (.int .i32 0) := CB.out.cell 2
                                have y3 : W8.cell? ⟨cb, 3, none⟩ = some (.int .u32 0) := CB.out.cell 3
                                have y4 : W8.cell? ⟨cb, 4, none⟩ = some (.int .u16 0) := CB.out.cell 4
                                have y5 : W8.cell? ⟨cb, 5, none⟩ = some (.int .u8 kk) := CB.out.cell 5
                                have y6 : W8.cell? ⟨cb, 6, none⟩ = some (.int .u8 0) := CB.out.cell 6
                                have z0 : W8.cell? ⟨gu, 0, none⟩ = some (.string ⟨#[]⟩) := UW.out.1.cell 0
                                have z1 : W8.cell? ⟨gu, 1, none⟩ = some (.int .u8 st) := UW.out.1.cell 1
                                go_upto_if 135 with fail
                                go_cut [136] from 135 to 136 (fun s wx => wx = W8)
                                case first =>
                                  rcases ST2.out with h | h
                                  · have h' : (st == 0) = true := by rw [h]; rfl
                                    clear h
                                    rw [h']
                                    clear h'
                                    go_wp2_with fail
                                    refine (turn26 cb kk _ K26.out y5).mono ?_
                                    rintro e w' ⟨rfl, rfl⟩
                                    go_wp2_with fail
                                    go_meet
                                    first | rfl | trivial
                                  · have h' : (st == 0) = false := by rw [h]; rfl
                                    clear h
                                    rw [h']
                                    clear h'
                                    go_wp2_with fail
                                    go_meet
                                    first | rfl | trivial
                                case rest =>
                                  have hwc := hcut.symm
                                  clear hcut
                                  subst hwc
                                  go_wp2_with fail
                                  refine (upd28 g 2 ⟨tk, kk, tk, kk, ⟨#[]⟩, st, (nr : Int) - 1, false⟩ (S1 Q bs st 2) ib _ _ _ _ (by omega) MW.out.t (by unfold S1; rw [if_neg (by omega)]; rfl)).mono ?_
                                  rintro e W9 ⟨rfl, ht, hk9⟩
                                  have M9 := Lib.hid (MW.out.kept hk9 (S' := S1 Q bs st (2 + 1)) (by rw [← S1.step, HTK.out, HKK.out]; rw [show (nr : Int) - 1 = 0 by have := HNR.out; omega] at ht; exact ht))
                                  have B9 := Lib.hid (show Blk W9 gu 73 #[.string ⟨#[]⟩, .int .u8 st] ∧ Blk W9 b2 86 C2 from ⟨hk9.blk UW.out.1 UW.out.1.lt GN.out.1, hk9.blk UW.out.2 UW.out.2.lt GN.out.2⟩)
                                  clear y0 y1 y2 y3 y4 y5 y6 z0 z1 ht hk9 UW MW CB
                                  go_wp2_with fail
                                  go_roundw
                                  case rel => exact ⟨2 + 1, by omega, by go_num, M9, B9⟩
                                  case measure => simp [intOf]
                              · rw [show ((3 : Nat) : Int) = 3 from rfl]
                                obtain ⟨tk, HTK⟩ : ∃ tk, Hid (tq (qa Q bs 3) = tk) := ⟨_, Lib.hid rfl⟩
                                obtain ⟨kk, HKK⟩ : ∃ kk, Hid (kq (qa Q bs 3) = kk) := ⟨_, Lib.hid rfl⟩
                                have hx := hix3
                                rw [HTK.out, HKK.out] at hx
                                clear hix0 hix1 hix2 hix3
                                have UW := Lib.hid (show Blk (wr.alloc (.cells #[.pointer none, .string tk, .int .i32 0, .int .u32 0, .int .u16 0, .int .u8 kk, .int .u8 0] 47)) gu 73 #[.string ⟨#[]⟩, .int .u8 st] ∧ Blk (wr.alloc (.cells #[.pointer none, .string tk, .int .i32 0, .int .u32 0, .int .u16 0, .int .u8 kk, .int .u8 0] 47)) b2 86 C2 from ⟨BU.out.1.alloc _, BU.out.2.alloc _⟩)
                                have MW := Lib.hid (MM.out.below ((Below.refl wr.heap.size wr).alloc (Nat.le_refl _) (.cells #[.pointer none, .string tk, .int .i32 0, .int .u32 0, .int .u16 0, .int .u8 kk, .int .u8 0] 47)))
                                have CB := Lib.hid (Blk.new wr 47 #[.pointer none, .string tk, .int .i32 0, .int .u32 0, .int .u16 0, .int .u8 kk, .int .u8 0])
                                have K26 := Lib.hid (show kk ≠ 26 from HKK.out ▸ nk26 (qa Q bs 3))
                                go_upto_region 33 with fail
                                clear hx BU MM
                                generalize wr.alloc (.cells #[.pointer none, .string tk, .int .i32 0, .int .u32 0, .int .u16 0, .int .u8 kk, .int .u8 0] 47) = W8 at *
                                generalize wr.heap.size = cb at *
                                have y0 : W8.cell? ⟨cb, 0, none⟩ = some (.pointer none) := CB.out.cell 0
                                have y1 : W8.cell? ⟨cb, 1, none⟩ = some (.string tk) := CB.out.cell 1
                                have y2 : W8.cell? ⟨cb, 2, none⟩ = some (.int .i32 0) := CB.out.cell 2
                                have y3 : W8.cell? ⟨cb, 3, none⟩ = some (.int .u32 0) := CB.out.cell 3
                                have y4 : W8.cell? ⟨cb, 4, none⟩ = some (.int .u16 0) := CB.out.cell 4
                                have y5 : W8.cell? ⟨cb, 5, none⟩ = some (.int .u8 kk) := CB.out.cell 5
                                have y6 : W8.cell? ⟨cb, 6, none⟩ = some (.int .u8 0) := CB.out.cell 6
                                have z0 : W8.cell? ⟨gu, 0, none⟩ = some (.string ⟨#[]⟩) := UW.out.1.cell 0
                                have z1 : W8.cell? ⟨gu, 1, none⟩ = some (.int .u8 st) := UW.out.1.cell 1
                                go_upto_if 135 with fail
                                go_cut [136] from 135 to 136 (fun s wx => wx = W8)
                                case first =>
                                  rcases ST2.out with h | h
                                  · have h' : (st == 0) = true := by rw [h]; rfl
                                    clear h
                                    rw [h']
                                    clear h'
                                    go_wp2_with fail
                                    refine (turn26 cb kk _ K26.out y5).mono ?_
                                    rintro e w' ⟨rfl, rfl⟩
                                    go_wp2_with fail
                                    go_meet
                                    first | rfl | trivial
                                  · have h' : (st == 0) = false := by rw [h]; rfl
                                    clear h
                                    rw [h']
                                    clear h'
                                    go_wp2_with fail
                                    go_meet
                                    first | rfl | trivial
                                case rest =>
                                  have hwc := hcut.symm
                                  clear hcut
                                  subst hwc
                                  go_wp2_with fail
                                  refine (upd28 g 3 ⟨tk, kk, tk, kk, ⟨#[]⟩, st, (nr : Int) - 1, false⟩ (S1 Q bs st 3) ib _ _ _ _ (by omega) MW.out.t (by unfold S1; rw [if_neg (by omega)]; rfl)).mono ?_
                                  rintro e W9 ⟨rfl, ht, hk9⟩
                                  have M9 := Lib.hid (MW.out.kept hk9 (S' := S1 Q bs st (3 + 1)) (by rw [← S1.step, HTK.out, HKK.out]; rw [show (nr : Int) - 1 = 0 by have := HNR.out; omega] at ht; exact ht))
                                  have B9 := Lib.hid (show Blk W9 gu 73 #[.string ⟨#[]⟩, .int .u8 st] ∧ Blk W9 b2 86 C2 from ⟨hk9.blk UW.out.1 UW.out.1.lt GN.out.1, hk9.blk UW.out.2 UW.out.2.lt GN.out.2⟩)
                                  clear y0 y1 y2 y3 y4 y5 y6 z0 z1 ht hk9 UW MW CB
                                  go_wp2_with fail
                                  go_roundw
                                  case rel => exact ⟨3 + 1, by omega, by go_num, M9, B9⟩
                                  case measure => simp [intOf]
                            · obtain rfl : k = 4 := by omega
                              clear hix0 hix1 hix2 hix3
                              have MQ := Lib.hid (show MS w g rg d tb n Q ks kl ib l (SQ Q bs es n st 0) wr from by rw [← S1.four]; exact MM.out)
                              clear MM
                              obtain ⟨W8, rfl⟩ : ∃ W8 : World, W8 = wr := ⟨_, rfl⟩
                              by_cases hbe : bs < es
                              · obtain rfl : f2 = true := HCF.out hbe
                                have A2 := Lib.hid (HF2.out.1 rfl)
                                have HM2 := Lib.hid (show bs < es → 1 ≤ m ∧ m ≤ 4 from fun _ => ⟨A2.out.1.1, A2.out.1.2.1⟩)
                                have HBE := Lib.hid hbe
                                clear hbe
                                obtain ⟨CL2, hCL2⟩ : ∃ CL : List Value, C2 = CL.toArray := ⟨C2.toList, by simp⟩
                                subst hCL2
                                have hR2 := Lib.hid (show W8.rangeAt b2 0 CL2 from fun j v hj => by
                                  rw [Nat.zero_add, BU.out.2.cell]
                                  simpa using hj)
                                have hi86 : (Tryd.prog.info? 86).map (·.size) = some CL2.length := by rw [show CL2.length = 28 by simpa using HC2.out.2]; exact info86
                                have hix0 : ∀ W : World, (Instr.index 86 (.agg CL2.toArray) (.int .i64 0)).run Tryd.prog W = .ok (.agg #[.pointer none, .string (tq (qb Q bs es n 0)), .int .i32 0, .int .u32 0, .int .u16 0, .int .u8 (kq (qb Q bs es n 0)), .int .u8 0]) W := fun W => by rw [A2.out.2, show qb Q bs es n 0 = Q (es + sel m 0) from by unfold qb; rw [if_pos HBE.out, HM.out]]; exact jx0 _ _ _ _ _ _ _ _ W
                                have hix1 : ∀ W : World, (Instr.index 86 (.agg CL2.toArray) (.int .i64 1)).run Tryd.prog W = .ok (.agg #[.pointer none, .string (tq (qb Q bs es n 1)), .int .i32 0, .int .u32 0, .int .u16 0, .int .u8 (kq (qb Q bs es n 1)), .int .u8 0]) W := fun W => by rw [A2.out.2, show qb Q bs es n 1 = Q (es + sel m 1) from by unfold qb; rw [if_pos HBE.out, HM.out]]; exact jx1 _ _ _ _ _ _ _ _ W
                                have hix2 : ∀ W : World, (Instr.index 86 (.agg CL2.toArray) (.int .i64 2)).run Tryd.prog W = .ok (.agg #[.pointer none, .string (tq (qb Q bs es n 2)), .int .i32 0, .int .u32 0, .int .u16 0, .int .u8 (kq (qb Q bs es n 2)), .int .u8 0]) W := fun W => by rw [A2.out.2, show qb Q bs es n 2 = Q (es + sel m 2) from by unfold qb; rw [if_pos HBE.out, HM.out]]; exact jx2 _ _ _ _ _ _ _ _ W
                                have hix3 : ∀ W : World, (Instr.index 86 (.agg CL2.toArray) (.int .i64 3)).run Tryd.prog W = .ok (.agg #[.pointer none, .string (tq (qb Q bs es n 3)), .int .i32 0, .int .u32 0, .int .u16 0, .int .u8 (kq (qb Q bs es n 3)), .int .u8 0]) W := fun W => by rw [A2.out.2, show qb Q bs es n 3 = Q (es + sel m 3) from by unfold qb; rw [if_pos HBE.out, HM.out]]; exact jx3 _ _ _ _ _ _ _ _ W
                                have UB8 := Lib.hid BU.out.1
                                clear BU
                                go_wp2_with (refine wpList_load_mid rfl 86 _ rfl b2 0 rfl CL2 _ hR2.out Tryd.underlying86 rfl hi86 ?_)
                                clear hi86
                                go_loopw [152] (fun i wr => ∃ k : Nat, k ≤ 4 ∧ i = .int .i64 k ∧ Hid (MS w g rg d tb n Q ks kl ib l (SQ Q bs es n st k) wr) ∧ Hid (Blk wr gu 73 #[.string ⟨#[]⟩, .int .u8 st])) (fun i _ => 4 - (intOf i).toNat)
                                case atStart => exact ⟨0, by omega, rfl, MQ, UB8⟩
                                case round =>
                                  clear MQ UB8 hR2
                                  obtain ⟨k, hk, rfl, MM, BU⟩ := hrel
                                  by_cases hlt5 : k < 4
                                  · rcases fourI hlt5 with rfl | rfl | rfl | rfl
                                    · rw [show ((0 : Nat) : Int) = 0 from rfl]
                                      obtain ⟨tk, HTK⟩ : ∃ tk, Hid (tq (qb Q bs es n 0) = tk) := ⟨_, Lib.hid rfl⟩
                                      obtain ⟨kk, HKK⟩ : ∃ kk, Hid (kq (qb Q bs es n 0) = kk) := ⟨_, Lib.hid rfl⟩
                                      have hx := hix0
                                      rw [HTK.out, HKK.out] at hx
                                      clear hix0 hix1 hix2 hix3
                                      have UW := Lib.hid (show Blk (wr.alloc (.cells #[.pointer none, .string tk, .int .i32 0, .int .u32 0, .int .u16 0, .int .u8 kk, .int .u8 0] 47)) gu 73 #[.string ⟨#[]⟩, .int .u8 st] from BU.out.alloc _)
                                      have MW := Lib.hid (MM.out.below ((Below.refl wr.heap.size wr).alloc (Nat.le_refl _) (.cells #[.pointer none, .string tk, .int .i32 0, .int .u32 0, .int .u16 0, .int .u8 kk, .int .u8 0] 47)))
                                      have CB := Lib.hid (Blk.new wr 47 #[.pointer none, .string tk, .int .i32 0, .int .u32 0, .int .u16 0, .int .u8 kk, .int .u8 0])
                                      have K26 := Lib.hid (show kk ≠ 26 from HKK.out ▸ nk26 (qb Q bs es n 0))
                                      go_upto_region 41 with fail
                                      clear hx BU MM
                                      generalize wr.alloc (.cells #[.pointer none, .string tk, .int .i32 0, .int .u32 0, .int .u16 0, .int .u8 kk, .int .u8 0] 47) = W9 at *
                                      generalize wr.heap.size = cb at *
                                      have y0 : W9.cell? ⟨cb, 0, none⟩ = some (.pointer none) := CB.out.cell 0
                                      have y1 : W9.cell? ⟨cb, 1, none⟩ = some (.string tk) := CB.out.cell 1
                                      have y2 : W9.cell? ⟨cb, 2, none⟩ = some (.int .i32 0) := CB.out.cell 2
                                      have y3 : W9.cell? ⟨cb, 3, none⟩ = some (.int .u32 0) := CB.out.cell 3
                                      have y4 : W9.cell? ⟨cb, 4, none⟩ = some (.int .u16 0) := CB.out.cell 4
                                      have y5 : W9.cell? ⟨cb, 5, none⟩ = some (.int .u8 kk) := CB.out.cell 5
                                      have y6 : W9.cell? ⟨cb, 6, none⟩ = some (.int .u8 0) := CB.out.cell 6
                                      have z1 : W9.cell? ⟨gu, 1, none⟩ = some (.int .u8 st) := UW.out.cell 1
                                      go_upto_if 158 with fail
                                      go_cut [159] from 158 to 159 (fun s wx => wx = W9)
                                      case first =>
                                        rcases ST2.out with h | h
                                        · have h' : (st == 0) = true := by rw [h]; rfl
                                          clear h
                                          rw [h']
                                          clear h'
                                          go_wp2_with fail
                                          refine (turn26 cb kk _ K26.out y5).mono ?_
                                          rintro e w' ⟨rfl, rfl⟩
                                          go_wp2_with fail
                                          go_meet
                                          first | rfl | trivial
                                        · have h' : (st == 0) = false := by rw [h]; rfl
                                          clear h
                                          rw [h']
                                          clear h'
                                          go_wp2_with fail
                                          go_meet
                                          first | rfl | trivial
                                      case rest =>
                                        have hwc := hcut.symm
                                        clear hcut
                                        subst hwc
                                        have RC := Lib.hid (show W9.drew.rangeAt cb 0 [.pointer none, .string tk, .int .i32 0, .int .u32 0, .int .u16 0, .int .u8 kk, .int .u8 0] from fun j v hj => by
                                          rw [Nat.zero_add]
                                          show W9.cell? _ = _
                                          rw [CB.out.cell j]
                                          simpa using hj)
                                        have hth := Lib.hid (show W9.drew.there g (0 * 18 + 7) 7 from (MW.out.t.below (Below.refl _ _).drew).thereAt _ _ (by omega))
                                        have h47 : (Tryd.prog.info? 47).map (·.size) = some ([.pointer none, .string tk, .int .i32 0, .int .u32 0, .int .u16 0, .int .u8 kk, .int .u8 0] : List Value).length := by kernel_rfl
                                        have h47b : (Tryd.prog.info? 47).map (·.size) = some (#[.pointer none, .string tk, .int .i32 0, .int .u32 0, .int .u16 0, .int .u8 kk, .int .u8 0] : Array Value).size := by kernel_rfl
                                        have PUT := Lib.hid (show Tk (W9.drew.setCells g (0 * 18 + 7) [.pointer none, .string tk, .int .i32 0, .int .u32 0, .int .u16 0, .int .u8 kk, .int .u8 0]) g (SQ Q bs es n st (0 + 1)) ib ∧ Kept W9.heap.size g W9 (W9.drew.setCells g (0 * 18 + 7) [.pointer none, .string tk, .int .i32 0, .int .u32 0, .int .u16 0, .int .u8 kk, .int .u8 0]) from ⟨by
                                          rw [← SQ.step Q bs es n st (k := 0) (by omega), HTK.out, HKK.out]
                                          exact Tk.put2 (MW.out.t.below (Below.refl _ _).drew) (by omega) tk kk, kept_setCells (Kept.refl _ _ _).drew _ _⟩)
                                        go_upto_region 43 with fail
                                        refine wp_region_still_tail 7 (by kernel_rfl) (by kernel_rfl) ?_
                                        simp only [List.take_succ_cons, List.take_zero, List.drop_succ_cons, List.drop_zero]
                                        still_step
                                        still_step
                                        refine wpStill_step (fun K hK => ?_)
                                        refine still_load_mid (by rfl) 47 _ (by rfl) cb 0 (by rfl) [.pointer none, .string tk, .int .i32 0, .int .u32 0, .int .u16 0, .int .u8 kk, .int .u8 0] _ RC.out Tryd.underlying47 rfl h47 ?_
                                        refine hK _ ?_
                                        clear hK K
                                        still_step
                                        still_step
                                        still_step
                                        still_step
                                        refine wpStill_nil ?_
                                        change wpList _ _ _ _ _ W9.drew
                                        refine wpList_store_mid (by rfl) 47 _ _ rfl g (0 * 18 + 7) #[.pointer none, .string tk, .int .i32 0, .int .u32 0, .int .u16 0, .int .u8 kk, .int .u8 0] rfl rfl hth.out h47b (all_oneCell_toArray (tok_one _ _ _ _)) ?_
                                        have M9 := Lib.hid (MW.out.kept PUT.out.2 PUT.out.1)
                                        have B9 := Lib.hid (PUT.out.2.blk UW.out UW.out.lt GN.out.1)
                                        clear y0 y1 y2 y3 y4 y5 y6 z1 UW MW CB RC hth PUT
                                        generalize W9.drew.setCells g (0 * 18 + 7) _ = W10 at *
                                        go_wp2_with fail
                                        go_roundw
                                        case rel => exact ⟨0 + 1, by omega, by go_num, M9, B9⟩
                                        case measure => simp [intOf]
                                    · rw [show ((1 : Nat) : Int) = 1 from rfl]
                                      obtain ⟨tk, HTK⟩ : ∃ tk, Hid (tq (qb Q bs es n 1) = tk) := ⟨_, Lib.hid rfl⟩
                                      obtain ⟨kk, HKK⟩ : ∃ kk, Hid (kq (qb Q bs es n 1) = kk) := ⟨_, Lib.hid rfl⟩
                                      have hx := hix1
                                      rw [HTK.out, HKK.out] at hx
                                      clear hix0 hix1 hix2 hix3
                                      have UW := Lib.hid (show Blk (wr.alloc (.cells #[.pointer none, .string tk, .int .i32 0, .int .u32 0, .int .u16 0, .int .u8 kk, .int .u8 0] 47)) gu 73 #[.string ⟨#[]⟩, .int .u8 st] from BU.out.alloc _)
                                      have MW := Lib.hid (MM.out.below ((Below.refl wr.heap.size wr).alloc (Nat.le_refl _) (.cells #[.pointer none, .string tk, .int .i32 0, .int .u32 0, .int .u16 0, .int .u8 kk, .int .u8 0] 47)))
                                      have CB := Lib.hid (Blk.new wr 47 #[.pointer none, .string tk, .int .i32 0, .int .u32 0, .int .u16 0, .int .u8 kk, .int .u8 0])
                                      have K26 := Lib.hid (show kk ≠ 26 from HKK.out ▸ nk26 (qb Q bs es n 1))
                                      go_upto_region 41 with fail
                                      clear hx BU MM
                                      generalize wr.alloc (.cells #[.pointer none, .string tk, .int .i32 0, .int .u32 0, .int .u16 0, .int .u8 kk, .int .u8 0] 47) = W9 at *
                                      generalize wr.heap.size = cb at *
                                      have y0 : W9.cell? ⟨cb, 0, none⟩ = some (.pointer none) := CB.out.cell 0
                                      have y1 : W9.cell? ⟨cb, 1, none⟩ = some (.string tk) := CB.out.cell 1
                                      have y2 : W9.cell? ⟨cb, 2, none⟩ = some (.int .i32 0) := CB.out.cell 2
                                      have y3 : W9.cell? ⟨cb, 3, none⟩ = some (.int .u32 0) := CB.out.cell 3
                                      have y4 : W9.cell? ⟨cb, 4, none⟩ = some (.int .u16 0) := CB.out.cell 4
                                      have y5 : W9.cell? ⟨cb, 5, none⟩ = some (.int .u8 kk) := CB.out.cell 5
                                      have y6 : W9.cell? ⟨cb, 6, none⟩ = some (.int .u8 0) := CB.out.cell 6
                                      have z1 : W9.cell? ⟨gu, 1, none⟩ = some (.int .u8 st) := UW.out.cell 1
                                      go_upto_if 158 with fail
                                      go_cut [159] from 158 to 159 (fun s wx => wx = W9)
                                      case first =>
                                        rcases ST2.out with h | h
                                        · have h' : (st == 0) = true := by rw [h]; rfl
                                          clear h
                                          rw [h']
                                          clear h'
                                          go_wp2_with fail
                                          refine (turn26 cb kk _ K26.out y5).mono ?_
                                          rintro e w' ⟨rfl, rfl⟩
                                          go_wp2_with fail
                                          go_meet
                                          first | rfl | trivial
                                        · have h' : (st == 0) = false := by rw [h]; rfl
                                          clear h
                                          rw [h']
                                          clear h'
                                          go_wp2_with fail
                                          go_meet
                                          first | rfl | trivial
                                      case rest =>
                                        have hwc := hcut.symm
                                        clear hcut
                                        subst hwc
                                        have RC := Lib.hid (show W9.drew.rangeAt cb 0 [.pointer none, .string tk, .int .i32 0, .int .u32 0, .int .u16 0, .int .u8 kk, .int .u8 0] from fun j v hj => by
                                          rw [Nat.zero_add]
                                          show W9.cell? _ = _
                                          rw [CB.out.cell j]
                                          simpa using hj)
                                        have hth := Lib.hid (show W9.drew.there g (1 * 18 + 7) 7 from (MW.out.t.below (Below.refl _ _).drew).thereAt _ _ (by omega))
                                        have h47 : (Tryd.prog.info? 47).map (·.size) = some ([.pointer none, .string tk, .int .i32 0, .int .u32 0, .int .u16 0, .int .u8 kk, .int .u8 0] : List Value).length := by kernel_rfl
                                        have h47b : (Tryd.prog.info? 47).map (·.size) = some (#[.pointer none, .string tk, .int .i32 0, .int .u32 0, .int .u16 0, .int .u8 kk, .int .u8 0] : Array Value).size := by kernel_rfl
                                        have PUT := Lib.hid (show Tk (W9.drew.setCells g (1 * 18 + 7) [.pointer none, .string tk, .int .i32 0, .int .u32 0, .int .u16 0, .int .u8 kk, .int .u8 0]) g (SQ Q bs es n st (1 + 1)) ib ∧ Kept W9.heap.size g W9 (W9.drew.setCells g (1 * 18 + 7) [.pointer none, .string tk, .int .i32 0, .int .u32 0, .int .u16 0, .int .u8 kk, .int .u8 0]) from ⟨by
                                          rw [← SQ.step Q bs es n st (k := 1) (by omega), HTK.out, HKK.out]
                                          exact Tk.put2 (MW.out.t.below (Below.refl _ _).drew) (by omega) tk kk, kept_setCells (Kept.refl _ _ _).drew _ _⟩)
                                        go_upto_region 43 with fail
                                        refine wp_region_still_tail 7 (by kernel_rfl) (by kernel_rfl) ?_
                                        simp only [List.take_succ_cons, List.take_zero, List.drop_succ_cons, List.drop_zero]
                                        still_step
                                        still_step
                                        refine wpStill_step (fun K hK => ?_)
                                        refine still_load_mid (by rfl) 47 _ (by rfl) cb 0 (by rfl) [.pointer none, .string tk, .int .i32 0, .int .u32 0, .int .u16 0, .int .u8 kk, .int .u8 0] _ RC.out Tryd.underlying47 rfl h47 ?_
                                        refine hK _ ?_
                                        clear hK K
                                        still_step
                                        still_step
                                        still_step
                                        still_step
                                        refine wpStill_nil ?_
                                        change wpList _ _ _ _ _ W9.drew
                                        refine wpList_store_mid (by rfl) 47 _ _ rfl g (1 * 18 + 7) #[.pointer none, .string tk, .int .i32 0, .int .u32 0, .int .u16 0, .int .u8 kk, .int .u8 0] rfl rfl hth.out h47b (all_oneCell_toArray (tok_one _ _ _ _)) ?_
                                        have M9 := Lib.hid (MW.out.kept PUT.out.2 PUT.out.1)
                                        have B9 := Lib.hid (PUT.out.2.blk UW.out UW.out.lt GN.out.1)
                                        clear y0 y1 y2 y3 y4 y5 y6 z1 UW MW CB RC hth PUT
                                        generalize W9.drew.setCells g (1 * 18 + 7) _ = W10 at *
                                        go_wp2_with fail
                                        go_roundw
                                        case rel => exact ⟨1 + 1, by omega, by go_num, M9, B9⟩
                                        case measure => simp [intOf]
                                    · rw [show ((2 : Nat) : Int) = 2 from rfl]
                                      obtain ⟨tk, HTK⟩ : ∃ tk, Hid (tq (qb Q bs es n 2) = tk) := ⟨_, Lib.hid rfl⟩
                                      obtain ⟨kk, HKK⟩ : ∃ kk, Hid (kq (qb Q bs es n 2) = kk) := ⟨_, Lib.hid rfl⟩
                                      have hx := hix2
                                      rw [HTK.out, HKK.out] at hx
                                      clear hix0 hix1 hix2 hix3
                                      have UW := Lib.hid (show Blk (wr.alloc (.cells #[.pointer none, .string tk, .int .i32 0, .int .u32 0, .int .u16 0, .int .u8 kk, .int .u8 0] 47)) gu 73 #[.string ⟨#[]⟩, .int .u8 st] from BU.out.alloc _)
                                      have MW := Lib.hid (MM.out.below ((Below.refl wr.heap.size wr).alloc (Nat.le_refl _) (.cells #[.pointer none, .string tk, .int .i32 0, .int .u32 0, .int .u16 0, .int .u8 kk, .int .u8 0] 47)))
                                      have CB := Lib.hid (Blk.new wr 47 #[.pointer none, .string tk, .int .i32 0, .int .u32 0, .int .u16 0, .int .u8 kk, .int .u8 0])
                                      have K26 := Lib.hid (show kk ≠ 26 from HKK.out ▸ nk26 (qb Q bs es n 2))
                                      go_upto_region 41 with fail
                                      clear hx BU MM
                                      generalize wr.alloc (.cells #[.pointer none, .string tk, .int .i32 0, .int .u32 0, .int .u16 0, .int .u8 kk, .int .u8 0] 47) = W9 at *
                                      generalize wr.heap.size = cb at *
                                      have y0 : W9.cell? ⟨cb, 0, none⟩ = some (.pointer none) := CB.out.cell 0
                                      have y1 : W9.cell? ⟨cb, 1, none⟩ = some (.string tk) := CB.out.cell 1
                                      have y2 : W9.cell? ⟨cb, 2, none⟩ = some (.int .i32 0) := CB.out.cell 2
                                      have y3 : W9.cell? ⟨cb, 3, none⟩ = some (.int .u32 0) := CB.out.cell 3
                                      have y4 : W9.cell? ⟨cb, 4, none⟩ = some (.int .u16 0) := CB.out.cell 4
                                      have y5 : W9.cell? ⟨cb, 5, none⟩ = some (.int .u8 kk) := CB.out.cell 5
                                      have y6 : W9.cell? ⟨cb, 6, none⟩ = some (.int .u8 0) := CB.out.cell 6
                                      have z1 : W9.cell? ⟨gu, 1, none⟩ = some (.int .u8 st) := UW.out.cell 1
                                      go_upto_if 158 with fail
                                      go_cut [159] from 158 to 159 (fun s wx => wx = W9)
                                      case first =>
                                        rcases ST2.out with h | h
                                        · have h' : (st == 0) = true := by rw [h]; rfl
                                          clear h
                                          rw [h']
                                          clear h'
                                          go_wp2_with fail
                                          refine (turn26 cb kk _ K26.out y5).mono ?_
                                          rintro e w' ⟨rfl, rfl⟩
                                          go_wp2_with fail
                                          go_meet
                                          first | rfl | trivial
                                        · have h' : (st == 0) = false := by rw [h]; rfl
                                          clear h
                                          rw [h']
                                          clear h'
                                          go_wp2_with fail
                                          go_meet
                                          first | rfl | trivial
                                      case rest =>
                                        have hwc := hcut.symm
                                        clear hcut
                                        subst hwc
                                        have RC := Lib.hid (show W9.drew.rangeAt cb 0 [.pointer none, .string tk, .int .i32 0, .int .u32 0, .int .u16 0, .int .u8 kk, .int .u8 0] from fun j v hj => by
                                          rw [Nat.zero_add]
                                          show W9.cell? _ = _
                                          rw [CB.out.cell j]
                                          simpa using hj)
                                        have hth := Lib.hid (show W9.drew.there g (2 * 18 + 7) 7 from (MW.out.t.below (Below.refl _ _).drew).thereAt _ _ (by omega))
                                        have h47 : (Tryd.prog.info? 47).map (·.size) = some ([.pointer none, .string tk, .int .i32 0, .int .u32 0, .int .u16 0, .int .u8 kk, .int .u8 0] : List Value).length := by kernel_rfl
                                        have h47b : (Tryd.prog.info? 47).map (·.size) = some (#[.pointer none, .string tk, .int .i32 0, .int .u32 0, .int .u16 0, .int .u8 kk, .int .u8 0] : Array Value).size := by kernel_rfl
                                        have PUT := Lib.hid (show Tk (W9.drew.setCells g (2 * 18 + 7) [.pointer none, .string tk, .int .i32 0, .int .u32 0, .int .u16 0, .int .u8 kk, .int .u8 0]) g (SQ Q bs es n st (2 + 1)) ib ∧ Kept W9.heap.size g W9 (W9.drew.setCells g (2 * 18 + 7) [.pointer none, .string tk, .int .i32 0, .int .u32 0, .int .u16 0, .int .u8 kk, .int .u8 0]) from ⟨by
                                          rw [← SQ.step Q bs es n st (k := 2) (by omega), HTK.out, HKK.out]
                                          exact Tk.put2 (MW.out.t.below (Below.refl _ _).drew) (by omega) tk kk, kept_setCells (Kept.refl _ _ _).drew _ _⟩)
                                        go_upto_region 43 with fail
                                        refine wp_region_still_tail 7 (by kernel_rfl) (by kernel_rfl) ?_
                                        simp only [List.take_succ_cons, List.take_zero, List.drop_succ_cons, List.drop_zero]
                                        still_step
                                        still_step
                                        refine wpStill_step (fun K hK => ?_)
                                        refine still_load_mid (by rfl) 47 _ (by rfl) cb 0 (by rfl) [.pointer none, .string tk, .int .i32 0, .int .u32 0, .int .u16 0, .int .u8 kk, .int .u8 0] _ RC.out Tryd.underlying47 rfl h47 ?_
                                        refine hK _ ?_
                                        clear hK K
                                        still_step
                                        still_step
                                        still_step
                                        still_step
                                        refine wpStill_nil ?_
                                        change wpList _ _ _ _ _ W9.drew
                                        refine wpList_store_mid (by rfl) 47 _ _ rfl g (2 * 18 + 7) #[.pointer none, .string tk, .int .i32 0, .int .u32 0, .int .u16 0, .int .u8 kk, .int .u8 0] rfl rfl hth.out h47b (all_oneCell_toArray (tok_one _ _ _ _)) ?_
                                        have M9 := Lib.hid (MW.out.kept PUT.out.2 PUT.out.1)
                                        have B9 := Lib.hid (PUT.out.2.blk UW.out UW.out.lt GN.out.1)
                                        clear y0 y1 y2 y3 y4 y5 y6 z1 UW MW CB RC hth PUT
                                        generalize W9.drew.setCells g (2 * 18 + 7) _ = W10 at *
                                        go_wp2_with fail
                                        go_roundw
                                        case rel => exact ⟨2 + 1, by omega, by go_num, M9, B9⟩
                                        case measure => simp [intOf]
                                    · rw [show ((3 : Nat) : Int) = 3 from rfl]
                                      obtain ⟨tk, HTK⟩ : ∃ tk, Hid (tq (qb Q bs es n 3) = tk) := ⟨_, Lib.hid rfl⟩
                                      obtain ⟨kk, HKK⟩ : ∃ kk, Hid (kq (qb Q bs es n 3) = kk) := ⟨_, Lib.hid rfl⟩
                                      have hx := hix3
                                      rw [HTK.out, HKK.out] at hx
                                      clear hix0 hix1 hix2 hix3
                                      have UW := Lib.hid (show Blk (wr.alloc (.cells #[.pointer none, .string tk, .int .i32 0, .int .u32 0, .int .u16 0, .int .u8 kk, .int .u8 0] 47)) gu 73 #[.string ⟨#[]⟩, .int .u8 st] from BU.out.alloc _)
                                      have MW := Lib.hid (MM.out.below ((Below.refl wr.heap.size wr).alloc (Nat.le_refl _) (.cells #[.pointer none, .string tk, .int .i32 0, .int .u32 0, .int .u16 0, .int .u8 kk, .int .u8 0] 47)))
                                      have CB := Lib.hid (Blk.new wr 47 #[.pointer none, .string tk, .int .i32 0, .int .u32 0, .int .u16 0, .int .u8 kk, .int .u8 0])
                                      have K26 := Lib.hid (show kk ≠ 26 from HKK.out ▸ nk26 (qb Q bs es n 3))
                                      go_upto_region 41 with fail
                                      clear hx BU MM
                                      generalize wr.alloc (.cells #[.pointer none, .string tk, .int .i32 0, .int .u32 0, .int .u16 0, .int .u8 kk, .int .u8 0] 47) = W9 at *
                                      generalize wr.heap.size = cb at *
                                      have y0 : W9.cell? ⟨cb, 0, none⟩ = some (.pointer none) := CB.out.cell 0
                                      have y1 : W9.cell? ⟨cb, 1, none⟩ = some (.string tk) := CB.out.cell 1
                                      have y2 : W9.cell? ⟨cb, 2, none⟩ = some (.int .i32 0) := CB.out.cell 2
                                      have y3 : W9.cell? ⟨cb, 3, none⟩ = some (.int .u32 0) := CB.out.cell 3
                                      have y4 : W9.cell? ⟨cb, 4, none⟩ = some (.int .u16 0) := CB.out.cell 4
                                      have y5 : W9.cell? ⟨cb, 5, none⟩ = some (.int .u8 kk) := CB.out.cell 5
                                      have y6 : W9.cell? ⟨cb, 6, none⟩ = some (.int .u8 0) := CB.out.cell 6
                                      have z1 : W9.cell? ⟨gu, 1, none⟩ = some (.int .u8 st) := UW.out.cell 1
                                      go_upto_if 158 with fail
                                      go_cut [159] from 158 to 159 (fun s wx => wx = W9)
                                      case first =>
                                        rcases ST2.out with h | h
                                        · have h' : (st == 0) = true := by rw [h]; rfl
                                          clear h
                                          rw [h']
                                          clear h'
                                          go_wp2_with fail
                                          refine (turn26 cb kk _ K26.out y5).mono ?_
                                          rintro e w' ⟨rfl, rfl⟩
                                          go_wp2_with fail
                                          go_meet
                                          first | rfl | trivial
                                        · have h' : (st == 0) = false := by rw [h]; rfl
                                          clear h
                                          rw [h']
                                          clear h'
                                          go_wp2_with fail
                                          go_meet
                                          first | rfl | trivial
                                      case rest =>
                                        have hwc := hcut.symm
                                        clear hcut
                                        subst hwc
                                        have RC := Lib.hid (show W9.drew.rangeAt cb 0 [.pointer none, .string tk, .int .i32 0, .int .u32 0, .int .u16 0, .int .u8 kk, .int .u8 0] from fun j v hj => by
                                          rw [Nat.zero_add]
                                          show W9.cell? _ = _
                                          rw [CB.out.cell j]
                                          simpa using hj)
                                        have hth := Lib.hid (show W9.drew.there g (3 * 18 + 7) 7 from (MW.out.t.below (Below.refl _ _).drew).thereAt _ _ (by omega))
                                        have h47 : (Tryd.prog.info? 47).map (·.size) = some ([.pointer none, .string tk, .int .i32 0, .int .u32 0, .int .u16 0, .int .u8 kk, .int .u8 0] : List Value).length := by kernel_rfl
                                        have h47b : (Tryd.prog.info? 47).map (·.size) = some (#[.pointer none, .string tk, .int .i32 0, .int .u32 0, .int .u16 0, .int .u8 kk, .int .u8 0] : Array Value).size := by kernel_rfl
                                        have PUT := Lib.hid (show Tk (W9.drew.setCells g (3 * 18 + 7) [.pointer none, .string tk, .int .i32 0, .int .u32 0, .int .u16 0, .int .u8 kk, .int .u8 0]) g (SQ Q bs es n st (3 + 1)) ib ∧ Kept W9.heap.size g W9 (W9.drew.setCells g (3 * 18 + 7) [.pointer none, .string tk, .int .i32 0, .int .u32 0, .int .u16 0, .int .u8 kk, .int .u8 0]) from ⟨by
                                          rw [← SQ.step Q bs es n st (k := 3) (by omega), HTK.out, HKK.out]
                                          exact Tk.put2 (MW.out.t.below (Below.refl _ _).drew) (by omega) tk kk, kept_setCells (Kept.refl _ _ _).drew _ _⟩)
                                        go_upto_region 43 with fail
                                        refine wp_region_still_tail 7 (by kernel_rfl) (by kernel_rfl) ?_
                                        simp only [List.take_succ_cons, List.take_zero, List.drop_succ_cons, List.drop_zero]
                                        still_step
                                        still_step
                                        refine wpStill_step (fun K hK => ?_)
                                        refine still_load_mid (by rfl) 47 _ (by rfl) cb 0 (by rfl) [.pointer none, .string tk, .int .i32 0, .int .u32 0, .int .u16 0, .int .u8 kk, .int .u8 0] _ RC.out Tryd.underlying47 rfl h47 ?_
                                        refine hK _ ?_
                                        clear hK K
                                        still_step
                                        still_step
                                        still_step
                                        still_step
                                        refine wpStill_nil ?_
                                        change wpList _ _ _ _ _ W9.drew
                                        refine wpList_store_mid (by rfl) 47 _ _ rfl g (3 * 18 + 7) #[.pointer none, .string tk, .int .i32 0, .int .u32 0, .int .u16 0, .int .u8 kk, .int .u8 0] rfl rfl hth.out h47b (all_oneCell_toArray (tok_one _ _ _ _)) ?_
                                        have M9 := Lib.hid (MW.out.kept PUT.out.2 PUT.out.1)
                                        have B9 := Lib.hid (PUT.out.2.blk UW.out UW.out.lt GN.out.1)
                                        clear y0 y1 y2 y3 y4 y5 y6 z1 UW MW CB RC hth PUT
                                        generalize W9.drew.setCells g (3 * 18 + 7) _ = W10 at *
                                        go_wp2_with fail
                                        go_roundw
                                        case rel => exact ⟨3 + 1, by omega, by go_num, M9, B9⟩
                                        case measure => simp [intOf]
                                  · obtain rfl : k = 4 := by omega
                                    clear hix0 hix1 hix2 hix3
                                    obtain ⟨W9, rfl⟩ : ∃ W9 : World, W9 = wr := ⟨_, rfl⟩
                                    have M9 := MM
                                    have k2 : W9.cell? ⟨d, 2, none⟩ = some (.int .i32 ks) := M9.out.e.hd.cell 2
                                    have k3 : W9.cell? ⟨d, 3, none⟩ = some (.int .i32 kl) := M9.out.e.hd.cell 3
                                    go_wp2_with fail
                                    refine (mc_end HNR.out M9.out HS.out ⟨A1.out.1.1, A1.out.1.2.1⟩ HM2.out hme ST2.out STZ.out (mw := mw)).mono ?_
                                    intro e w' hmc
                                    have hh := hmc
                                    obtain ⟨rfl, hmm⟩ := hmc
                                    have MC := Lib.hid hh
                                    clear hmm hh
                                    go_wp2_with fail
                                    first
                                      | refine bodyPost_end (results_none rfl _ _ _) rfl ?_
                                      | refine bodyPost_ret (results_none rfl _ _ _) rfl ?_
                                    exact MC.out
                              · cases f2
                                case true =>
                                  exact absurd (HF2.out.1 rfl).1.1 (by rcases HS.out with ⟨h1, h2, _⟩ | ⟨h1, h2, _⟩ <;> omega)
                                case false =>
                                  have HM2 := Lib.hid (show bs < es → 1 ≤ m ∧ m ≤ 4 from fun h => absurd h hbe)
                                  have M9 := Lib.hid (show MS w g rg d tb n Q ks kl ib l (SQ Q bs es n st 4) W8 from by rw [← SQ_flat hbe]; exact MQ.out)
                                  clear hbe MQ
                                  obtain ⟨W9, rfl⟩ : ∃ W9 : World, W9 = W8 := ⟨_, rfl⟩
                                  have k2 : W9.cell? ⟨d, 2, none⟩ = some (.int .i32 ks) := M9.out.e.hd.cell 2
                                  have k3 : W9.cell? ⟨d, 3, none⟩ = some (.int .i32 kl) := M9.out.e.hd.cell 3
                                  go_wp2_with fail
                                  refine (mc_end HNR.out M9.out HS.out ⟨A1.out.1.1, A1.out.1.2.1⟩ HM2.out hme ST2.out STZ.out (mw := mw)).mono ?_
                                  intro e w' hmc
                                  have hh := hmc
                                  obtain ⟨rfl, hmm⟩ := hmc
                                  have MC := Lib.hid hh
                                  clear hmm hh
                                  go_wp2_with fail
                                  first
                                    | refine bodyPost_end (results_none rfl _ _ _) rfl ?_
                                    | refine bodyPost_ret (results_none rfl _ _ _) rfl ?_
                                  exact MC.out
end Go.Proofs.YtnolnlekdlfeaaaDoor.ZT
