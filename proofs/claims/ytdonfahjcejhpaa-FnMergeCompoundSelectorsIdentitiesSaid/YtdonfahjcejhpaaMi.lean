/- The merge law of n011_210, walked. -/
import Derived.Test.YtdonfahjcejhpaaMh
namespace Go.Proofs.Ytdonfahjcejhpaa.MG
open Go.RowKit Go.Proofs.Ytdonfahjcejhpaa.TB
set_option linter.unusedVariables false
theorem m1_start {w W1 W2 W3 : World} {ty : Int} {m : Nat} {A : Option Addr} {n c : Nat} {S : Nat → ByteArray} {xc : Int} {tp : Option Addr} {v nv gv : Value} (hx : Blk W1 w.heap.size 35 #[.int .u8 ty, .int .u8 m, .slice A n c]) (hb : Below w.heap.size w W1)
    (hy : TyAt W2 (.pointer tp) ty) (hs : Subs W1.heap.size W2 v n S) (h2 : Below W1.heap.size W1 W2)
    (hg : W3.ownsRow (W2.heap.size + 1) 9 1 gv n (sls (dots S) n)) (h3 : Below (W2.heap.size + 1) (W2.alloc (.cells #[.pointer tp, v, nv, .int .i32 0, .int .u8 (cb xc), .bool false] 46)) W3) :
    M1 w ty m A n c S xc tp v nv gv W2.heap.size W3.heap.size W1.heap.size (W2.heap.size + 1) (W3.alloc (.cells #[.int .u8 (cb xc), .string (tt ty), .int .i64 m, gv, .bool false] 49)) := by
  have e1 : Below W2.heap.size W2 W3 := ((Below.refl _ _).alloc (Nat.le_refl _) _).trans (h3.mono (by omega))
  have e2 : Below W2.heap.size W2 (W3.alloc (.cells #[.int .u8 (cb xc), .string (tt ty), .int .i64 m, gv, .bool false] 49)) := e1.alloc e1.size _
  have kx := hx.below h2 hx.lt
  refine ⟨kx.below e2 kx.lt, ?_, Blk.new W3 49 _, hs.below e2, hy.below e2, hg.alloc _, (hb.trans (h2.mono hb.size)).trans (e2.mono (Nat.le_trans hb.size h2.size)), Nat.le_trans hb.size h2.size⟩
  exact (Blk.new W2 46 #[.pointer tp, v, nv, .int .i32 0, .int .u8 (cb xc), .bool false]).below h3 (by omega) |>.alloc _
def QB (W : World) (g7 g8 : Nat) (tp : Option Addr) (v nv : Value) (cB : Int) (ty : ByteArray) (m : Int) (gv : Value) (cC : Int) (w' : World) : Prop := Below W.heap.size W w' ∧ QM g7 g8 tp v nv cB ty m gv cC w'
theorem QB.step {W : World} {g7 g8 : Nat} {tp : Option Addr} {v nv : Value} {cB : Int} {ty : ByteArray} {m : Int} {gv : Value} {cC : Int} {w1 w2 : World} (h : QB W g7 g8 tp v nv cB ty m gv cC w1) (hb : Below w1.heap.size w1 w2) : QB W g7 g8 tp v nv cB ty m gv cC w2 :=
  ⟨h.1.trans (hb.mono h.1.size), h.2.step hb⟩
theorem below_drewN (w : World) (n : Nat) : Below w.heap.size w (w.drewN n) := ⟨rfl, rfl, rfl, Nat.le_refl _, fun _ _ => rfl⟩
theorem blk_new2 (w : World) (o : Obj) (t : TypeId) (cs : Array Value) : Blk ((w.alloc o).alloc (.cells cs t)) (w.heap.size + 1) t cs := by
  have h := Blk.new (w.alloc o) t cs
  simpa using h
set_option maxRecDepth 100000 in
set_option maxHeartbeats 8000000 in
theorem law4 (ty xc oc : Int) (m : Nat) (A : Option Addr) (n c : Nat) (S : Nat → ByteArray) (w : World) (h1 : 0 ≤ ty) (h2 : ty ≤ 255) (hm : m ≤ 255) (h3 : 0 ≤ xc) (h4 : xc ≤ 255) (h5 : 0 ≤ oc) (h6 : oc ≤ 255) (hn : n ≤ maxLen) (hA : Strs w A n S) :
    Calls Try.prog 4 #[.agg #[.int .u8 ty, .int .u8 m, .slice A n c], .int .u8 xc, .int .u8 oc] w fun e w' => e = .returned (.bool true) ∧ Below w.heap.size w w' := by
  have X0 := Lib.hid (Blk.new w 35 #[.int .u8 ty, .int .u8 m, .slice A n c])
  have B0 := Lib.hid (show Below w.heap.size w (w.alloc (.cells #[.int .u8 ty, .int .u8 m, .slice A n c] 35)) from (Below.refl _ _).alloc (Nat.le_refl _) _)
  have A0 := Lib.hid (hA.below ((Below.refl w.heap.size w).alloc (Nat.le_refl _) (.cells #[.int .u8 ty, .int .u8 m, .slice A n c] 35)))
  have HN := Lib.hid hn
  have HAW := Lib.hid hA
  have HM := Lib.hid hm
  unfold maxLen at hn
  clear hA
  go_enter Try.func4, Try.ntmps4
  go_wp2_with fail
  generalize w.alloc (.cells #[.int .u8 ty, .int .u8 m, .slice A n c] 35) = W0 at *
  refine (bytes9 ty xc oc m A n c S _ HN.out A0.out).mono ?_
  rintro e W1 ⟨b, rfl, hb1, hb2⟩
  have X1 := Lib.hid (X0.out.below hb2 X0.out.lt)
  have B1 := Lib.hid (B0.out.trans (hb2.mono B0.out.size))
  have A1 := Lib.hid (A0.out.below hb2)
  clear hb2 X0 B0 A0
  have x0 : W1.cell? ⟨w.heap.size, 0, none⟩ = some (.int .u8 ty) := X1.out.cell 0
  have x1 : W1.cell? ⟨w.heap.size, 1, none⟩ = some (.int .u8 m) := X1.out.cell 1
  have x2 : W1.cell? ⟨w.heap.size, 2, none⟩ = some (.slice A n c) := X1.out.cell 2
  cases b
  · clear hb1
    go_wp2_with fail
    go_ret
    exact ⟨rfl, B1.out⟩
  · obtain ⟨-, hs⟩ := hb1 rfl
    have HS := Lib.hid hs
    clear hb1 hs
    by_cases h4096 : 4096 < n
    · have h' : (4096 : Int) < (n : Int) := by omega
      go_wp2_with fail
      go_ret
      exact ⟨rfl, B1.out⟩
    · have h' : ¬ (4096 : Int) < (n : Int) := by omega
      have hn2 : n ≤ 4096 := by omega
      go_wp2_with fail
      refine (sum10 ty m A n c S _ hn2 HM.out A1.out HS.out).mono ?_
      rintro e W2 ⟨s, s0, s1, rfl, hb2⟩
      have X2 := Lib.hid (X1.out.below hb2 X1.out.lt)
      have B2 := Lib.hid (B1.out.trans (hb2.mono B1.out.size))
      have A2 := Lib.hid (A1.out.below hb2)
      clear hb2 X1 B1 A1 x0 x1 x2
      have x0 : W2.cell? ⟨w.heap.size, 0, none⟩ = some (.int .u8 ty) := X2.out.cell 0
      have x1 : W2.cell? ⟨w.heap.size, 1, none⟩ = some (.int .u8 m) := X2.out.cell 1
      have x2 : W2.cell? ⟨w.heap.size, 2, none⟩ = some (.slice A n c) := X2.out.cell 2
      by_cases hbig : 1048576 < s
      · go_wp2_with fail
        go_ret
        exact ⟨rfl, B2.out⟩
      · go_wp2_with fail
        refine (build11 ty m xc A n c S _ h1 h2 HM.out h3 h4 hn2 A2.out HS.out).mono ?_
        rintro e W3 ⟨tpv, v, nv, rfl, hty, ⟨na, nc, rfl⟩, hsub, hb3⟩
        obtain ⟨tp, rfl⟩ : ∃ tp, tpv = .pointer tp := by
          unfold TyAt at hty
          split at hty
          · exact ⟨_, hty⟩
          · obtain ⟨g, e1, -⟩ := hty; exact ⟨_, e1⟩
        obtain ⟨va, vl, vc, rfl⟩ := hsub.form
        have TY3 := Lib.hid hty
        have S3 := Lib.hid hsub
        have B3 := Lib.hid hb3
        clear hty hsub hb3 x0 x1 x2
        go_wp2_with fail
        refine (obs12 tp (.slice va vl vc) W2.heap.size n S na m nc 0 (cb xc) ty false _ hn2 HM.out (TY3.out.below ((Below.refl _ _).alloc (Nat.le_refl _) _)) (S3.out.below ((Below.refl _ _).alloc (Nat.le_refl _) _)) HS.out).mono ?_
        rintro e W4 ⟨gv, rfl, hg, hb4⟩
        obtain ⟨ga, gl, gc, rfl⟩ := own_form hg
        have M4 := Lib.hid (m1_start (xc := xc) (nv := .slice na m nc) X2.out B2.out TY3.out S3.out B3.out (by simpa using hg) (by simpa using hb4))
        clear hg hb4 TY3 S3 B3
        go_wp2_with (go_at_call 13; refine (comb13 _ _ h5 h6).mono ?_; rintro e w' ⟨rfl, rfl⟩)
        have M5 := Lib.hid (M4.out.below ((Below.refl _ _).alloc (Nat.le_refl _) (.cells #[.pointer none, .slice none 0 0, .slice none 0 0, .int .i32 0, .int .u8 (cb oc), .bool false] 46)))
        generalize (W4.alloc (.cells #[.int .u8 (cb xc), .string (tt ty), .int .i64 m, .slice ga gl gc, .bool false] 49)).alloc (.cells #[.pointer none, .slice none 0 0, .slice none 0 0, .int .i32 0, .int .u8 (cb oc), .bool false] 46) = W5 at *
        clear M4 X2 B2 A2
        generalize W3.heap.size = g7 at *
        generalize W4.heap.size = g8 at *
        generalize W2.heap.size = b1 at *
        refine (zmerge_a g7 (.pointer tp) (.slice na m nc) va vl vc 0 (cb xc) (cb oc) false _ M5.out.s.vform M5.out.t).mono ?_
        rintro e W6 ⟨rfl, hB6, hK6⟩
        have M6 := Lib.hid (M5.out.kept7 hK6 hB6)
        clear hB6 hK6 M5
        go_upto_region 12 with fail
        have q0 : W6.cell? ⟨g7, 0, none⟩ = some (.pointer tp) := M6.out.t.cell 0
        go_cut [41] (fun s wx => s = .bool false ∧ Hid (Below W6.heap.size W6 wx))
        case first =>
          have START := Lib.hid (show QB W6 g7 g8 tp (.slice va vl vc) (.slice na m nc) (cb xc) (tt ty) m (.slice ga gl gc) (cb xc) W6.drew from ⟨(Below.refl _ _).drew, QM.of M6.out.t.drew M6.out.o.drew⟩)
          have STEP := Lib.hid (fun w1 w2 (h : QB W6 g7 g8 tp (.slice va vl vc) (.slice na m nc) (cb xc) (tt ty) m (.slice ga gl gc) (cb xc) w1) (hb : Below w1.heap.size w1 w2) => h.step hb)
          go_region_held3 (fun w' => Below W6.heap.size W6 w' ∧ w'.cell? ⟨g7, 0, none⟩ = some (.pointer tp) ∧ w'.cell? ⟨g7, 1, none⟩ = some (.slice va vl vc) ∧ w'.cell? ⟨g7, 2, none⟩ = some (.slice na m nc) ∧ w'.cell? ⟨g7, 3, none⟩ = some (.int .i32 0) ∧ w'.cell? ⟨g7, 4, none⟩ = some (.int .u8 (cb xc)) ∧ w'.cell? ⟨g7, 5, none⟩ = some (.bool false) ∧ w'.cell? ⟨g8, 0, none⟩ = some (.int .u8 (cb xc)) ∧ w'.cell? ⟨g8, 1, none⟩ = some (.string (tt ty)) ∧ w'.cell? ⟨g8, 2, none⟩ = some (.int .i64 m) ∧ w'.cell? ⟨g8, 3, none⟩ = some (.slice ga gl gc) ∧ w'.cell? ⟨g8, 4, none⟩ = some (.bool false))
            (first | assumption | exact START.out | exact STEP.out _ _ (by assumption) ((Below.refl _ _).alloc (Nat.le_refl _) _) | exact STEP.out _ _ (by assumption) (below_drewN _ _))
            (first
              | (go_at_call 12; refine (obs12 tp (.slice va vl vc) _ n S na m nc 0 (cb xc) ty false _ hn2 HM.out (TyAt.below M6.out.y (And.left (show QB W6 g7 g8 tp (.slice va vl vc) (.slice na m nc) (cb xc) (tt ty) m (.slice ga gl gc) (cb xc) _ by assumption))) (Subs.below M6.out.s (And.left (show QB W6 g7 g8 tp (.slice va vl vc) (.slice na m nc) (cb xc) (tt ty) m (.slice ga gl gc) (cb xc) _ by assumption))) HS.out).mono ?_; rintro e_ w9 ⟨gv9, rfl, hg9, hb9⟩; obtain ⟨a9, l9, c9, rfl⟩ := own_form hg9; have HG9 := Lib.hid hg9; have HB0 := Lib.hid hb9; have hI := STEP.out _ _ (by assumption) hb9; have HB9 := Lib.hid hI.1; clear hg9 hb9; unfold QB QM at hI)
              | (go_at_call 15; with_reducible show Calls Try.prog 15 #[.slice (some ⟨w9.heap.size, 0, none⟩) 1 1, .slice (some ⟨w9.heap.size + 1, 0, none⟩) 1 1] _ _; refine (same15 w9.heap.size (w9.heap.size + 1) 1 1 (cb xc) (tt ty) m false n (dots S) _ hn2 (gp_of (t := 49) ((Blk.new w9 49 _).alloc _) ((HG9.out.alloc _).alloc _)) (gp_of (t := 49) (blk_new2 w9 _ 49 _) (((own_below M6.out.g HB9.out).alloc _).alloc _))).mono ?_; rintro e_ w10 ⟨rfl, k10, rfl⟩)
              | (go_at_call 15; with_reducible show Calls Try.prog 15 #[.slice (some ⟨w9.heap.size + 1, 0, none⟩) 1 1, .slice (some ⟨w9.heap.size, 0, none⟩) 1 1] _ _; refine (same15 (w9.heap.size + 1) w9.heap.size 1 1 (cb xc) (tt ty) m false n (dots S) _ hn2 (gp_of (t := 49) (blk_new2 w9 _ 49 _) ((HG9.out.alloc _).alloc _)) (gp_of (t := 49) ((Blk.new w9 49 _).alloc _) (((own_below M6.out.g HB9.out).alloc _).alloc _))).mono ?_; rintro e_ w10 ⟨rfl, k10, rfl⟩)
              | (go_at_call 15; refine (same15 w9.heap.size W6.heap.size 1 1 (cb xc) (tt ty) m false n (dots S) _ hn2 (gp_of (t := 49) (Blk.new w9 49 _) (HG9.out.alloc _)) (gp_of (t := 49) ((Blk.below (Blk.new W6.drew 49 _) HB0.out (by simp)).alloc _) ((own_below M6.out.g HB9.out).alloc _))).mono ?_; rintro e_ w10 ⟨rfl, k10, rfl⟩))
          all_goals
            go_wp2_with fail
            go_meet
            exact ⟨rfl, Lib.hid (And.left (show QB W6 g7 g8 tp (.slice va vl vc) (.slice na m nc) (cb xc) (tt ty) m (.slice ga gl gc) (cb xc) _ by assumption))⟩
        case rest =>
          obtain ⟨rfl, HC⟩ := hcut
          have M7 := Lib.hid (M6.out.below HC.out)
          clear HC M6 q0
          have M8 := Lib.hid (M7.out.below ((Below.refl _ _).alloc (Nat.le_refl _) (.cells #[.pointer none, .slice none 0 0, .slice none 0 0, .int .i32 0, .int .u8 (cb oc), .bool false] 46)))
          have T8 := Lib.hid (Blk.new wc 46 #[.pointer none, .slice none 0 0, .slice none 0 0, .int .i32 0, .int .u8 (cb oc), .bool false])
          have hne : Hid (g7 ≠ wc.heap.size ∧ w.heap.size ≤ wc.heap.size) := Lib.hid ⟨Nat.ne_of_lt M7.out.t.lt, M7.out.b.size⟩
          have x0 : (wc.alloc (.cells #[.pointer none, .slice none 0 0, .slice none 0 0, .int .i32 0, .int .u8 (cb oc), .bool false] 46)).cell? ⟨w.heap.size, 0, none⟩ = some (.int .u8 ty) := M8.out.x.cell 0
          have x1 : (wc.alloc (.cells #[.pointer none, .slice none 0 0, .slice none 0 0, .int .i32 0, .int .u8 (cb oc), .bool false] 46)).cell? ⟨w.heap.size, 1, none⟩ = some (.int .u8 m) := M8.out.x.cell 1
          have x2 : (wc.alloc (.cells #[.pointer none, .slice none 0 0, .slice none 0 0, .int .i32 0, .int .u8 (cb oc), .bool false] 46)).cell? ⟨w.heap.size, 2, none⟩ = some (.slice A n c) := M8.out.x.cell 2
          go_wp2_with (go_at_call 13; refine (comb13 _ _ h5 h6).mono ?_; rintro e w' ⟨rfl, rfl⟩)
          clear x0 x1 x2
          generalize wc.alloc (.cells #[.pointer none, .slice none 0 0, .slice none 0 0, .int .i32 0, .int .u8 (cb oc), .bool false] 46) = W8 at *
          generalize wc.heap.size = g10 at *
          refine (build11 ty m xc A n c S _ h1 h2 HM.out h3 h4 hn2 (HAW.out.below M8.out.b) HS.out).mono ?_
          rintro e W9 ⟨tpv2, v2, nv2, rfl, hty, ⟨na2, nc2, rfl⟩, hsub, hb9⟩
          obtain ⟨tp2, rfl⟩ : ∃ tp, tpv2 = .pointer tp := by
            unfold TyAt at hty
            split at hty
            · exact ⟨_, hty⟩
            · obtain ⟨g, e1, -⟩ := hty; exact ⟨_, e1⟩
          obtain ⟨va2, vl2, vc2, rfl⟩ := hsub.form
          have M9 := Lib.hid (M8.out.below hb9)
          have T9 := Lib.hid (T8.out.below hb9 T8.out.lt)
          have TY9 := Lib.hid hty
          have S9 := Lib.hid hsub
          clear M8 T8 hty hsub hb9
          go_wp2_with fail
          refine (zmerge_b g10 tp2 va2 vl2 vc2 na2 m nc2 n W8.heap.size S 0 0 (cb oc) (cb xc) false false _ hn2 S9.out T9.out).mono ?_
          rintro e W10 ⟨rfl, v3, nv3, ⟨na3, nc3, rfl⟩, hB10, hS10, hK10⟩
          obtain ⟨va3, vl3, vc3, rfl⟩ := hS10.form
          have M10 := Lib.hid (M9.out.keptq hK10 T9.out hne.out.1 hne.out.2)
          have T10 := Lib.hid hB10
          have S10 := Lib.hid hS10
          have TY10 := Lib.hid (TY9.out.kept hK10 T9.out (by decide))
          clear M9 T9 TY9 S9 hB10 hS10 hK10
          have z0 : W10.cell? ⟨g8, 0, none⟩ = some (.int .u8 (cb xc)) := M10.out.o.cell 0
          have z1 : W10.cell? ⟨g8, 1, none⟩ = some (.string (tt ty)) := M10.out.o.cell 1
          have z2 : W10.cell? ⟨g8, 2, none⟩ = some (.int .i64 m) := M10.out.o.cell 2
          have z3 : W10.cell? ⟨g8, 3, none⟩ = some (.slice ga gl gc) := M10.out.o.cell 3
          have z4 : W10.cell? ⟨g8, 4, none⟩ = some (.bool false) := M10.out.o.cell 4
          have T11 := Lib.hid (T10.out.alloc (.cells #[.int .u8 (cb oc), .string (tt ty), .int .i64 m, .slice ga gl gc, .bool false] 49))
          have O11 := Lib.hid (Blk.new W10 49 #[.int .u8 (cb oc), .string (tt ty), .int .i64 m, .slice ga gl gc, .bool false])
          have S11 := Lib.hid (S10.out.below ((Below.refl _ _).alloc (Nat.le_refl _) (.cells #[.int .u8 (cb oc), .string (tt ty), .int .i64 m, .slice ga gl gc, .bool false] 49)))
          have TY11 := Lib.hid (TY10.out.below ((Below.refl _ _).alloc (Nat.le_refl _) (.cells #[.int .u8 (cb oc), .string (tt ty), .int .i64 m, .slice ga gl gc, .bool false] 49)))
          have M11 := Lib.hid (M10.out.below ((Below.refl _ _).alloc (Nat.le_refl _) (.cells #[.int .u8 (cb oc), .string (tt ty), .int .i64 m, .slice ga gl gc, .bool false] 49)))
          go_wp2_with (go_at_call 13; refine (comb13 _ _ h5 h6).mono ?_; rintro e w' ⟨rfl, rfl⟩)
          clear z0 z1 z2 z3 z4 M10 T10 S10 TY10
          generalize W10.alloc (.cells #[.int .u8 (cb oc), .string (tt ty), .int .i64 m, .slice ga gl gc, .bool false] 49) = W11 at *
          generalize W10.heap.size = g11 at *
          have START := Lib.hid (show QB W11 g10 g11 tp2 (.slice va3 vl3 vc3) (.slice na3 m nc3) (cb oc) (tt ty) m (.slice ga gl gc) (cb oc) W11.drew from ⟨(Below.refl _ _).drew, QM.of T11.out.drew O11.out.drew⟩)
          have STEP := Lib.hid (fun w1 w2 (h : QB W11 g10 g11 tp2 (.slice va3 vl3 vc3) (.slice na3 m nc3) (cb oc) (tt ty) m (.slice ga gl gc) (cb oc) w1) (hb : Below w1.heap.size w1 w2) => h.step hb)
          go_region_held3 (fun w' => Below W11.heap.size W11 w' ∧ w'.cell? ⟨g10, 0, none⟩ = some (.pointer tp2) ∧ w'.cell? ⟨g10, 1, none⟩ = some (.slice va3 vl3 vc3) ∧ w'.cell? ⟨g10, 2, none⟩ = some (.slice na3 m nc3) ∧ w'.cell? ⟨g10, 3, none⟩ = some (.int .i32 0) ∧ w'.cell? ⟨g10, 4, none⟩ = some (.int .u8 (cb oc)) ∧ w'.cell? ⟨g10, 5, none⟩ = some (.bool false) ∧ w'.cell? ⟨g11, 0, none⟩ = some (.int .u8 (cb oc)) ∧ w'.cell? ⟨g11, 1, none⟩ = some (.string (tt ty)) ∧ w'.cell? ⟨g11, 2, none⟩ = some (.int .i64 m) ∧ w'.cell? ⟨g11, 3, none⟩ = some (.slice ga gl gc) ∧ w'.cell? ⟨g11, 4, none⟩ = some (.bool false))
            (first | assumption | exact START.out | exact STEP.out _ _ (by assumption) ((Below.refl _ _).alloc (Nat.le_refl _) _) | exact STEP.out _ _ (by assumption) (below_drewN _ _))
            (first
              | (go_at_call 12; refine (obs12 tp2 (.slice va3 vl3 vc3) _ n S na3 m nc3 0 (cb oc) ty false _ hn2 HM.out (TyAt.below TY11.out (And.left (show QB W11 g10 g11 tp2 (.slice va3 vl3 vc3) (.slice na3 m nc3) (cb oc) (tt ty) m (.slice ga gl gc) (cb oc) _ by assumption))) (Subs.below S11.out (And.left (show QB W11 g10 g11 tp2 (.slice va3 vl3 vc3) (.slice na3 m nc3) (cb oc) (tt ty) m (.slice ga gl gc) (cb oc) _ by assumption))) HS.out).mono ?_; rintro e_ w9 ⟨gv9, rfl, hg9, hb9⟩; obtain ⟨a9, l9, c9, rfl⟩ := own_form hg9; have HG9 := Lib.hid hg9; have HB0 := Lib.hid hb9; have hI := STEP.out _ _ (by assumption) hb9; have HB9 := Lib.hid hI.1; clear hg9 hb9; unfold QB QM at hI)
              | (go_at_call 15; with_reducible show Calls Try.prog 15 #[.slice (some ⟨w9.heap.size, 0, none⟩) 1 1, .slice (some ⟨w9.heap.size + 1, 0, none⟩) 1 1] _ _; refine (same15 w9.heap.size (w9.heap.size + 1) 1 1 (cb oc) (tt ty) m false n (dots S) _ hn2 (gp_of (t := 49) ((Blk.new w9 49 _).alloc _) ((HG9.out.alloc _).alloc _)) (gp_of (t := 49) (blk_new2 w9 _ 49 _) (((own_below M11.out.g HB9.out).alloc _).alloc _))).mono ?_; rintro e_ w10 ⟨rfl, k10, rfl⟩)
              | (go_at_call 15; with_reducible show Calls Try.prog 15 #[.slice (some ⟨w9.heap.size + 1, 0, none⟩) 1 1, .slice (some ⟨w9.heap.size, 0, none⟩) 1 1] _ _; refine (same15 (w9.heap.size + 1) w9.heap.size 1 1 (cb oc) (tt ty) m false n (dots S) _ hn2 (gp_of (t := 49) (blk_new2 w9 _ 49 _) ((HG9.out.alloc _).alloc _)) (gp_of (t := 49) ((Blk.new w9 49 _).alloc _) (((own_below M11.out.g HB9.out).alloc _).alloc _))).mono ?_; rintro e_ w10 ⟨rfl, k10, rfl⟩)
              | (go_at_call 15; refine (same15 w9.heap.size W11.heap.size 1 1 (cb oc) (tt ty) m false n (dots S) _ hn2 (gp_of (t := 49) (Blk.new w9 49 _) (HG9.out.alloc _)) (gp_of (t := 49) ((Blk.below (Blk.new W11.drew 49 _) HB0.out (by simp)).alloc _) ((own_below M11.out.g HB9.out).alloc _))).mono ?_; rintro e_ w10 ⟨rfl, k10, rfl⟩))
          all_goals
            go_wp2_with fail
            go_ret
            exact ⟨rfl, M11.out.b.trans ((And.left (show QB W11 g10 g11 tp2 (.slice va3 vl3 vc3) (.slice na3 m nc3) (cb oc) (tt ty) m (.slice ga gl gc) (cb oc) _ by assumption)).mono M11.out.b.size)⟩
end Go.Proofs.Ytdonfahjcejhpaa.MG
