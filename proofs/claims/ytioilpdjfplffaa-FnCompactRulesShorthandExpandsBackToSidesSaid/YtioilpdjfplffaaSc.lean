/- Law 4: the code behind the choice of 'd'. Written by gen_boxsc.py. -/
import Derived.Test.YtioilpdjfplffaaSb
import Derived.Test.YtioilpdjfplffaaRf
import Derived.Test.YtioilpdjfplffaaRg
import Derived.Test.YtioilpdjfplffaaRj
namespace Go.Proofs.Ytioilpdjfplffaa.ZT
open Go.RowKit Go.Proofs.Ytioilpdjfplffaa.TB
set_option linter.unusedVariables false
set_option linter.unusedSimpArgs false
noncomputable def sest25 : Code := (Try.f4.body.bind (fromAfter 24)).getD .skip
theorem TR.le {w : World} {A : Option Addr} {n m : Nat} {f : Nat → Nat → Value} (h : m ≤ n) (r : TR w A n f) : TR w A m f := fun hm => by
  obtain ⟨b, o, e, hl, hc⟩ := r (by omega)
  exact ⟨b, o, e, hl, fun i j hi hj => hc i j (by omega) hj⟩
theorem exp16x (A : Option Addr) (n c : Nat) (s : ByteArray) (K : Nat → Int) (T : Nat → ByteArray) (W L : Nat → Int) (w : World) (r : TR w A n (tc K T W L)) (hc : n ≤ c) (hn : c ≤ 16384) (hok : okAll n s K T) :
    Calls Try.prog 16 #[.slice A n c, .string s] w fun e w' => e = .returned (.tuple #[.agg #[.pointer none, .string (T (sel n 0)), .int .i32 (L (sel n 0)), .int .u32 0, .int .u16 0, .int .u8 (K (sel n 0)), .int .u8 (W (sel n 0)), .pointer none, .string (T (sel n 1)), .int .i32 (L (sel n 1)), .int .u32 0, .int .u16 0, .int .u8 (K (sel n 1)), .int .u8 (W (sel n 1)), .pointer none, .string (T (sel n 2)), .int .i32 (L (sel n 2)), .int .u32 0, .int .u16 0, .int .u8 (K (sel n 2)), .int .u8 (W (sel n 2)), .pointer none, .string (T (sel n 3)), .int .i32 (L (sel n 3)), .int .u32 0, .int .u16 0, .int .u8 (K (sel n 3)), .int .u8 (W (sel n 3))], .bool true]) ∧ Below w.heap.size w w' :=
  (exp16 A n c s K T W L w r hc hn hok).mono fun e w' h => by
    obtain ⟨Q, hq, he, hb⟩ := h
    rw [hq] at he
    exact ⟨he, hb⟩
theorem q28_sz {Q : Array Value} {K : Nat → Int} {T : Nat → ByteArray} {W L : Nat → Int} {a b c d : Nat} (h : Q = q28 K T W L a b c d) : Q.size = 28 ∧ Q.all (·.oneCell') = true := h ▸ q28_ok K T W L a b c d
theorem sto64 (W : World) (g : Nat) (Q : Array Value) {K : Nat → Int} {T : Nat → ByteArray} {W' L : Nat → Int} {a b c d : Nat} (h : Q = q28 K T W' L a b c d) (ht : W.there g 0 28) :
    (storeCells ⟨g, 0, none⟩ Q.toList).run Try.prog W = .ok () (W.setCells g 0 Q.toList) :=
  by
  have hs := (q28_sz h).1
  have h1 := (q28_sz h).2
  have this := run_storeCells_cells (P := Try.prog) g 0 Q.toList 0 W (fun j hj => by simpa using (ht j (by rw [← hs]; simpa using hj)).1) (fun j hj => by simpa using (ht j (by rw [← hs]; simpa using hj)).2)
    (fun v hv => (Array.all_eq_true_iff_forall_mem.1 h1) v (by simpa using hv))
  simp only [Nat.add_zero] at this
  exact this
theorem sto_new (w : World) (Q : Array Value) {K : Nat → Int} {T : Nat → ByteArray} {W' L : Nat → Int} {a b c d : Nat} (h : Q = q28 K T W' L a b c d) :
    (storeCells ⟨w.heap.size, 0, none⟩ Q.toList).run Try.prog (w.alloc (.cells #[.pointer none, .string { data := #[] }, .int .i32 0, .int .u32 0, .int .u16 0, .int .u8 0, .int .u8 0, .pointer none, .string { data := #[] }, .int .i32 0, .int .u32 0, .int .u16 0, .int .u8 0, .int .u8 0, .pointer none, .string { data := #[] }, .int .i32 0, .int .u32 0, .int .u16 0, .int .u8 0, .int .u8 0, .pointer none, .string { data := #[] }, .int .i32 0, .int .u32 0, .int .u16 0, .int .u8 0, .int .u8 0] 64)) = .ok () ((w.alloc (.cells #[.pointer none, .string { data := #[] }, .int .i32 0, .int .u32 0, .int .u16 0, .int .u8 0, .int .u8 0, .pointer none, .string { data := #[] }, .int .i32 0, .int .u32 0, .int .u16 0, .int .u8 0, .int .u8 0, .pointer none, .string { data := #[] }, .int .i32 0, .int .u32 0, .int .u16 0, .int .u8 0, .int .u8 0, .pointer none, .string { data := #[] }, .int .i32 0, .int .u32 0, .int .u16 0, .int .u8 0, .int .u8 0] 64)).setCells w.heap.size 0 Q.toList) :=
  sto64 _ _ Q h (Blk.there (Blk.new w 64 z28))
theorem sto_old (g : Nat) (w : World) (Q : Array Value) {K : Nat → Int} {T : Nat → ByteArray} {W' L : Nat → Int} {a b c d : Nat} (h : Q = q28 K T W' L a b c d) (hb : Blk w g 64 z28) :
    (storeCells ⟨g, 0, none⟩ Q.toList).run Try.prog w = .ok () (w.setCells g 0 Q.toList) :=
  sto64 _ _ Q h (Blk.there hb)
theorem Below28 {w w' : World} {g : Nat} (hb : Below w.heap.size w w') (hg : g < w.heap.size) (h : Blk w g 64 z28) : Blk w' g 64 z28 := Blk.below h hb hg
def LJ (dd tg mm : Nat) (wr w' : World) : Prop := Below wr.heap.size wr w' ∧ dd < wr.heap.size ∧ w'.cell? ⟨dd, 1, none⟩ = some (.slice (some ⟨tg, 0, none⟩) mm 4)
theorem LJ.step {dd tg mm : Nat} {wr w1 w2 : World} (h : LJ dd tg mm wr w1) (hb : Below w1.heap.size w1 w2) : LJ dd tg mm wr w2 := by
  obtain ⟨h0, h1, x0⟩ := h
  have z := h0.size
  exact ⟨h0.trans (hb.mono h0.size), h1, (hb.cell (p := ⟨dd, 1, none⟩) (by show dd < _; omega)).trans x0⟩
theorem LJ.far {dd tg mm : Nat} {wr w1 w2 : World} (h : LJ dd tg mm wr w1) (hb : Below wr.heap.size w1 w2) : LJ dd tg mm wr w2 := by
  obtain ⟨h0, h1, x0⟩ := h
  exact ⟨h0.trans hb, h1, (hb.cell (p := ⟨dd, 1, none⟩) h1).trans x0⟩
theorem LJ.fillNew {dd tg mm : Nat} {wr w1 : World} (h : LJ dd tg mm wr w1) (ob : Obj) (cs : List Value) : LJ dd tg mm wr ((w1.alloc ob).setCells w1.heap.size 0 cs) := by
  have z := h.1.size
  exact h.far (below_fill (w := w1) cs 0 ((Below.refl wr.heap.size w1).alloc z ob) z)
theorem LJ.fillOld {dd tg mm : Nat} {wr w1 : World} (h : LJ dd tg mm wr w1) (cs : List Value) : LJ dd tg mm wr (w1.setCells wr.heap.size 0 cs) :=
  h.far (below_fill (w := w1) cs 0 (Below.refl wr.heap.size w1) (Nat.le_refl _))
/-- What a comparison of a token with a code needs. -/
def GJ (qb cb s : Nat) (C : Nat → Int) (lq wq : Int) (wr w' : World) : Prop :=
  Below wr.heap.size wr w' ∧ qb < wr.heap.size ∧ cb < wr.heap.size ∧ w'.cell? ⟨qb, s * 7, none⟩ = some (.pointer none) ∧ w'.cell? ⟨qb, s * 7 + 1, none⟩ = some (.string (tx (C s))) ∧ w'.cell? ⟨qb, s * 7 + 2, none⟩ = some (.int .i32 lq) ∧ w'.cell? ⟨qb, s * 7 + 3, none⟩ = some (.int .u32 0) ∧ w'.cell? ⟨qb, s * 7 + 4, none⟩ = some (.int .u16 0) ∧ w'.cell? ⟨qb, s * 7 + 5, none⟩ = some (.int .u8 (kd (C s))) ∧ w'.cell? ⟨qb, s * 7 + 6, none⟩ = some (.int .u8 wq) ∧ w'.cell? ⟨cb, s, none⟩ = some (.int .u8 (C s))
theorem GJ.step {qb cb s : Nat} {C : Nat → Int} {lq wq : Int} {wr w1 w2 : World} (h : GJ qb cb s C lq wq wr w1) (hb : Below w1.heap.size w1 w2) : GJ qb cb s C lq wq wr w2 := by
  obtain ⟨h0, h1, h2, x0, x1, x2, x3, x4, x5, x6, y0⟩ := h
  have z := h0.size
  have e1 : qb < w1.heap.size := by omega
  have e2 : cb < w1.heap.size := by omega
  exact ⟨h0.trans (hb.mono h0.size), h1, h2, (hb.cell e1).trans x0, (hb.cell e1).trans x1, (hb.cell e1).trans x2, (hb.cell e1).trans x3, (hb.cell e1).trans x4, (hb.cell e1).trans x5, (hb.cell e1).trans x6, (hb.cell e2).trans y0⟩
/-- Whether the first s sides come back. -/
def eqB (C : Nat → Int) (n : Nat) : Nat → Bool
  | 0 => true
  | s + 1 => eqB C n s && (C (sel n s) == C s)
theorem eqB_xpd {C : Nat → Int} {n : Nat} (h1 : 1 ≤ n) (h3 : n ≤ 3) : eqB C n 4 = xpd C n := by
  rw [xpd_sel h1 h3]
  simp [eqB, Bool.and_assoc]
def GK (qb cb s : Nat) (a c : Int) (lq wq : Int) (wr w' : World) : Prop :=
  Below wr.heap.size wr w' ∧ qb < wr.heap.size ∧ cb < wr.heap.size ∧ w'.cell? ⟨qb, s * 7, none⟩ = some (.pointer none) ∧ w'.cell? ⟨qb, s * 7 + 1, none⟩ = some (.string (tx a)) ∧ w'.cell? ⟨qb, s * 7 + 2, none⟩ = some (.int .i32 lq) ∧ w'.cell? ⟨qb, s * 7 + 3, none⟩ = some (.int .u32 0) ∧ w'.cell? ⟨qb, s * 7 + 4, none⟩ = some (.int .u16 0) ∧ w'.cell? ⟨qb, s * 7 + 5, none⟩ = some (.int .u8 (kd a)) ∧ w'.cell? ⟨qb, s * 7 + 6, none⟩ = some (.int .u8 wq) ∧ w'.cell? ⟨cb, s, none⟩ = some (.int .u8 c)
theorem GK.step {qb cb s : Nat} {a c : Int} {lq wq : Int} {wr w1 w2 : World} (h : GK qb cb s a c lq wq wr w1) (hb : Below w1.heap.size w1 w2) : GK qb cb s a c lq wq wr w2 := by
  obtain ⟨h0, h1, h2, x0, x1, x2, x3, x4, x5, x6, y0⟩ := h
  have z := h0.size
  have e1 : qb < w1.heap.size := by omega
  have e2 : cb < w1.heap.size := by omega
  exact ⟨h0.trans (hb.mono h0.size), h1, h2, (hb.cell e1).trans x0, (hb.cell e1).trans x1, (hb.cell e1).trans x2, (hb.cell e1).trans x3, (hb.cell e1).trans x4, (hb.cell e1).trans x5, (hb.cell e1).trans x6, (hb.cell e2).trans y0⟩
set_option maxRecDepth 1000000 in
set_option maxHeartbeats 8000000 in
theorem sail25 (mw im : Bool) (g rg pb cb dd tg mm : Nat) (toks order : Int) (C W' Lf : Nat → Int) (w0 w : World) (u4 u5 u6 u7 u8 u12 u13 u15 u17 u19 u20 u21 u22 u23 u24 u25 u26 u27 u28 u29 u30 u31 u32 u33 u34 u35 u36 u37 u38 u39 u40 u41 u42 u43 u44 u45 u46 u47 u48 u49 u50 u51 u52 u53 u54 u55 u56 u57 u58 u59 u60 u61 u62 u63 u64 u65 u66 u67 u68 u69 u70 u71 u72 u73 u74 u75 u76 u77 u78 u79 u80 u81 u82 u83 u84 u85 u86 u87 u88 u89 u90 u91 u92 u93 u94 u95 u96 u97 u98 u99 u100 u101 u102 u103 u104 u105 u106 u107 u108 u109 u110 u111 u112 u113 u114 u115 u116 u117 u118 u119 u120 u121 u122 u123 u124 u125 u126 u127 u128 u129 u130 u131 u132 u133 u134 u135 u136 u137 u138 u139 u140 u141 u142 u143 u144 u145 u146 u147 u148 u149 u150 u151 u152 u153 u154 u155 u156 u157 u158 u159 u160 u161 u162 u163 u164 u165 u166 u167 u168 u169 u170 u171 u172 u173 u174 u175 u176 : Value)
    (h0 : Below w0.heap.size w0 w) (h1 : Tab w cb 50 1 4 (fun i _ => .int .u8 (C i))) (h2 : dd < w.heap.size) (h2' : w.cell? ⟨dd, 1, none⟩ = some (.slice (some ⟨tg, 0, none⟩) mm 4)) (h3 : TR w (some ⟨tg, 0, none⟩) mm (tc (fun i => kd (C i)) (fun i => tx (C i)) W' Lf)) (h4 : mm = mc C) (h5 : ∀ i, i < 4 → 0 ≤ C i ∧ C i ≤ 3) :
    Code.wp Try.prog sest25 (bodyPost Try.prog Try.f4 fun e w' => e = .returned (.bool true) ∧ Below w0.heap.size w0 w') ⟨#[.int .u16 toks, .int .u8 order, .bool mw, .bool im, u4, u5, u6, u7, u8, .pointer (some ⟨pb, 0, none⟩), .pointer (some ⟨g, 0, none⟩), .slice (some ⟨rg, 0, none⟩) 4 4, u12, u13, .pointer (some ⟨cb, 0, none⟩), u15, .int .i64 1, u17, .pointer (some ⟨dd, 0, none⟩), u19, u20, u21, u22, u23, u24, u25, u26, u27, u28, u29, u30, u31, u32, u33, u34, u35, u36, u37, u38, u39, u40, u41, u42, u43, u44, u45, u46, u47, u48, u49, u50, u51, u52, u53, u54, u55, u56, u57, u58, u59, u60, u61, u62, u63, u64, u65, u66, u67, u68, u69, u70, u71, u72, u73, u74, u75, u76, u77, u78, u79, u80, u81, u82, u83, u84, u85, u86, u87, u88, u89, u90, u91, u92, u93, u94, u95, u96, u97, u98, u99, u100, u101, u102, u103, u104, u105, u106, u107, u108, u109, u110, u111, u112, u113, u114, u115, u116, u117, u118, u119, u120, u121, u122, u123, u124, u125, u126, u127, u128, u129, u130, u131, u132, u133, u134, u135, u136, u137, u138, u139, u140, u141, u142, u143, u144, u145, u146, u147, u148, u149, u150, u151, u152, u153, u154, u155, u156, u157, u158, u159, u160, u161, u162, u163, u164, u165, u166, u167, u168, u169, u170, u171, u172, u173, u174, u175, u176], []⟩ w := by
  conv => arg 2; whnf
  have H0 := Lib.hid h0
  have H1 := Lib.hid h1
  have H2 := Lib.hid h2
  have H2' := Lib.hid h2'
  have H3 := Lib.hid h3
  have H4 := Lib.hid h4
  have H5 := Lib.hid h5
  have hm := mc_le C
  rw [← h4] at hm
  obtain ⟨hm1, hm4⟩ := hm
  have q1 : (1 : Int) ≤ (mm : Int) := by omega
  have q2 : ¬ (4 : Int) < (mm : Int) := by omega
  have q3 : ¬ (mm : Int) < 1 := by omega
  clear h0 h1 h2 h3 h4 h5
  go_wp2_with fail
  refine (exp16 (some ⟨tg, 0, none⟩) mm 4 { data := #[97, 117, 116, 111] } (fun i => kd (C i)) (fun i => tx (C i)) W' Lf _ H3.out hm4 (by omega) (okAll_code hm1 hm4 H5.out)).mono ?_
  rintro e w1 ⟨Q, hq, rfl, hb⟩
  have HQ := Lib.hid hq
  have HS := Lib.hid (show Q.size = 28 ∧ Q.all (·.oneCell') = true from hq ▸ q28_ok _ _ _ _ _ _ _ _)
  have B1 := Lib.hid hb
  clear hq hb h2'
  have Z0 := Lib.hid (Blk.new w1 64 z28)
  have BQ := Lib.hid (Blk.fill Z0.out Q (by rw [HS.out.1]; rfl))
  have BT := Lib.hid (Blk.there Z0.out)
  have B2 := Lib.hid (below_fill (w := w1) Q.toList 0 ((Below.refl w1.heap.size w1).alloc (Nat.le_refl _) (.cells z28 64)) (Nat.le_refl _))
  unfold z28 at Z0 BQ B2
  go_wp2_with (refine wpList_store_mid rfl 64 (.tmp 19) (.tmp 126) rfl w1.heap.size 0 Q rfl rfl (by rw [HS.out.1]; exact Blk.there Z0.out) (by rw [HS.out.1]; exact info64) HS.out.2 ?_)
  generalize World.setCells (w1.alloc (.cells #[.pointer none, .string { data := #[] }, .int .i32 0, .int .u32 0, .int .u16 0, .int .u8 0, .int .u8 0, .pointer none, .string { data := #[] }, .int .i32 0, .int .u32 0, .int .u16 0, .int .u8 0, .int .u8 0, .pointer none, .string { data := #[] }, .int .i32 0, .int .u32 0, .int .u16 0, .int .u8 0, .int .u8 0, .pointer none, .string { data := #[] }, .int .i32 0, .int .u32 0, .int .u16 0, .int .u8 0, .int .u8 0] 64)) w1.heap.size 0 Q.toList = W2 at *
  have HB := Lib.hid (B1.out.trans (B2.out.mono B1.out.size))
  have TQ := Lib.hid (tab_q (n := mm) (K := fun i => kd (C i)) (T := fun i => tx (C i)) (W := W') (L := Lf) (by rw [← HQ.out]; exact BQ.out))
  have T1 := Lib.hid (H1.out.below HB.out H1.out.lt)
  have D1 := Lib.hid (show W2.cell? ⟨dd, 1, none⟩ = some (.slice (some ⟨tg, 0, none⟩) mm 4) from (HB.out.cell (p := ⟨dd, 1, none⟩) H2.out).trans H2'.out)
  have hdl : dd < W2.heap.size := Nat.lt_of_lt_of_le H2.out HB.out.size
  have R1 := Lib.hid (TR.below H3.out HB.out)
  have R0 := Lib.hid (H0.out.trans (HB.out.mono H0.out.size))
  clear Z0 BQ BT B2 B1 HB H1 H2 H2' H3 HS HQ H0
  generalize w1.heap.size = qb at *
  go_loopw [21] (fun i wr => ∃ s : Nat, s ≤ 4 ∧ i = .int .i64 s ∧ Hid (Below W2.heap.size W2 wr)) (fun i _ => 4 - (intOf i).toNat)
  case atStart => exact ⟨0, by omega, rfl, Lib.hid (Below.refl _ _)⟩
  case round =>
    obtain ⟨s, hs, rfl, RB⟩ := hrel
    have X1 := Lib.hid (T1.out.below RB.out T1.out.lt)
    by_cases hlt : s < 4
    · as_aux_lemma =>
      have XQ := Lib.hid (TQ.out.below RB.out TQ.out.lt)
      have p1 : (0 : Int) ≤ (s : Int) := by omega
      have p2 : (s : Int) < 4 := by omega
      have ec : C (sel mm s) = C s := by have := mc_xpd C s hlt; rw [← H4.out] at this; exact this
      have START := Lib.hid (show GJ qb cb s C (Lf (sel mm s)) (W' (sel mm s)) wr wr.drew from ⟨(Below.refl _ _).drew, XQ.out.lt, X1.out.lt, XQ.out.cell (i := s) (j := 0) hlt (by omega), by rw [← ec]; exact XQ.out.cell (i := s) (j := 1) hlt (by omega), XQ.out.cell (i := s) (j := 2) hlt (by omega), XQ.out.cell (i := s) (j := 3) hlt (by omega), XQ.out.cell (i := s) (j := 4) hlt (by omega), by rw [← ec]; exact XQ.out.cell (i := s) (j := 5) hlt (by omega), XQ.out.cell (i := s) (j := 6) hlt (by omega), tcell1 X1.out hlt⟩)
      have STEP := Lib.hid (fun w1 w2 (h : GJ qb cb s C (Lf (sel mm s)) (W' (sel mm s)) wr w1) (hb : Below w1.heap.size w1 w2) => h.step hb)
      clear ec
      generalize Lf (sel mm s) = lq at *
      generalize W' (sel mm s) = wq at *
      go_upto_region 33 with fail
      go_cut [141] from 134 to 141 (fun s_ wx => s_ = .bool false ∧ Hid (Below wr.heap.size wr wx))
      case first =>
        go_region_held3 (fun w' => Below wr.heap.size wr w' ∧ qb < wr.heap.size ∧ cb < wr.heap.size ∧ w'.cell? ⟨qb, s * 7, none⟩ = some (.pointer none) ∧ w'.cell? ⟨qb, s * 7 + 1, none⟩ = some (.string (tx (C s))) ∧ w'.cell? ⟨qb, s * 7 + 2, none⟩ = some (.int .i32 lq) ∧ w'.cell? ⟨qb, s * 7 + 3, none⟩ = some (.int .u32 0) ∧ w'.cell? ⟨qb, s * 7 + 4, none⟩ = some (.int .u16 0) ∧ w'.cell? ⟨qb, s * 7 + 5, none⟩ = some (.int .u8 (kd (C s))) ∧ w'.cell? ⟨qb, s * 7 + 6, none⟩ = some (.int .u8 wq) ∧ w'.cell? ⟨cb, s, none⟩ = some (.int .u8 (C s)))
          (first | assumption | exact START.out)
          (first | (go_at_call 17; refine (isTok_same _ _ _ _).mono ?_; rintro e_ w9 ⟨rfl, hb9⟩; have hI := STEP.out _ _ (by assumption) hb9; clear hb9; unfold GJ at hI))
        all_goals
          go_wp2_with fail
          go_meet
          exact ⟨rfl, Lib.hid (And.left (show GJ qb cb s C lq wq wr w9 by assumption))⟩
      case rest =>
        obtain ⟨rfl, hbc⟩ := hcut
        have RB2 := Lib.hid (RB.out.trans (hbc.out.mono RB.out.size))
        clear hbc RB START STEP X1 XQ
        go_wp2_with fail
        go_roundw
        case rel => exact ⟨s + 1, by omega, by go_num, RB2⟩
        case measure => simp [intOf]; omega
    · obtain rfl : s = 4 := by omega
      have d1 : wr.cell? ⟨dd, 1, none⟩ = some (.slice (some ⟨tg, 0, none⟩) mm 4) := (RB.out.cell (p := ⟨dd, 1, none⟩) hdl).trans D1.out
      by_cases hm2 : 1 < mm
      · have q4 : (1 : Int) < (mm : Int) := by omega
        rcases (by omega : mm = 2 ∨ mm = 3 ∨ mm = 4) with rfl | rfl | rfl
        · as_aux_lemma =>
          have RT := Lib.hid (TR.le (show 1 ≤ 2 by omega) (TR.below R1.out RB.out))
          have XC := Lib.hid (X1.out)
          have START := Lib.hid (show LJ dd tg 2 wr wr.drew from ⟨(Below.refl _ _).drew, Nat.lt_of_lt_of_le hdl RB.out.size, d1⟩)
          have STEP := Lib.hid (fun w1 w2 (h : LJ dd tg 2 wr w1) (hb : Below w1.heap.size w1 w2) => h.step hb)
          have KA := Lib.hid (fun (w1 : World) (ob : Obj) (h : (Below wr.heap.size wr w1 ∧ dd < wr.heap.size ∧ World.cell? w1 ⟨dd, 1, none⟩ = some (.slice (some ⟨tg, 0, none⟩) 2 4))) => show (Below wr.heap.size wr (w1.alloc ob) ∧ dd < wr.heap.size ∧ World.cell? (w1.alloc ob) ⟨dd, 1, none⟩ = some (.slice (some ⟨tg, 0, none⟩) 2 4)) from LJ.step (dd := dd) (tg := tg) (mm := 2) h ((Below.refl _ _).alloc (Nat.le_refl _) ob))
          have KN := Lib.hid (fun (w1 : World) (ob : Obj) (cs : List Value) (h : (Below wr.heap.size wr w1 ∧ dd < wr.heap.size ∧ World.cell? w1 ⟨dd, 1, none⟩ = some (.slice (some ⟨tg, 0, none⟩) 2 4))) => show (Below wr.heap.size wr ((w1.alloc ob).setCells w1.heap.size 0 cs) ∧ dd < wr.heap.size ∧ World.cell? ((w1.alloc ob).setCells w1.heap.size 0 cs) ⟨dd, 1, none⟩ = some (.slice (some ⟨tg, 0, none⟩) 2 4)) from LJ.fillNew (dd := dd) (tg := tg) (mm := 2) h ob cs)
          have KO := Lib.hid (fun (w1 : World) (cs : List Value) (h : (Below wr.heap.size wr w1 ∧ dd < wr.heap.size ∧ World.cell? w1 ⟨dd, 1, none⟩ = some (.slice (some ⟨tg, 0, none⟩) 2 4))) => show (Below wr.heap.size wr (w1.setCells wr.heap.size 0 cs) ∧ dd < wr.heap.size ∧ World.cell? (w1.setCells wr.heap.size 0 cs) ⟨dd, 1, none⟩ = some (.slice (some ⟨tg, 0, none⟩) 2 4)) from LJ.fillOld (dd := dd) (tg := tg) (mm := 2) h cs)
          have KS := Lib.hid (show (Below wr.heap.size wr wr.drew ∧ dd < wr.heap.size ∧ World.cell? wr.drew ⟨dd, 1, none⟩ = some (.slice (some ⟨tg, 0, none⟩) 2 4)) from START.out)
          have KB := Lib.hid (fun (ob : Obj) => show (Below wr.heap.size wr (wr.alloc ob).drew ∧ dd < wr.heap.size ∧ World.cell? (wr.alloc ob).drew ⟨dd, 1, none⟩ = some (.slice (some ⟨tg, 0, none⟩) 2 4)) from LJ.step (dd := dd) (tg := tg) (mm := 2) START.out (show Below wr.drew.heap.size wr.drew (wr.alloc ob).drew from ((Below.refl _ _).alloc (Nat.le_refl _) ob)))
          have CT := Lib.hid (fun (W : World) (h : LJ dd tg 2 wr W) => exp16 (some ⟨tg, 0, none⟩) 1 4 { data := #[97, 117, 116, 111] } (fun i => kd (C i)) (fun i => tx (C i)) W' Lf W (TR.below RT.out h.1) (by omega) (by omega) (okAll_code (by omega) (by omega) H5.out))
          have HMIN := Lib.hid (show xpd C 1 = false from by have := mc_min C (by rw [← H4.out]; omega); rw [← H4.out] at this; exact this)
          clear TQ T1 D1 R1
          go_upto_region 36 with fail
          clear q1 q2 q3 q4 hm1 hm4 hm2 hs hlt
          have swa : IntKind.i64.wrap (2 - 1) = 2 - 1 := by decide
          have swb : IntKind.i64.wrap 1 = 1 := by decide
          have swc : (0 : Int) ≤ 1 := by decide
          have swd : (1 : Int) ≤ 4 := by decide
          clear d1
          go_cut [22, 23] from 148 to 162 (fun p_ b_ wx => ∃ q2, p_ = .pointer (some ⟨q2, 0, none⟩) ∧ b_ = .bool true ∧ Hid (Blk wx q2 64 (q28 (fun i => kd (C i)) (fun i => tx (C i)) W' Lf (sel 1 0) (sel 1 1) (sel 1 2) (sel 1 3))) ∧ Hid (Below wr.heap.size wr wx))
          case first =>
            go_region_held3 (fun w' => Below wr.heap.size wr w' ∧ dd < wr.heap.size ∧ w'.cell? ⟨dd, 1, none⟩ = some (.slice (some ⟨tg, 0, none⟩) 2 4))
              (first | with_reducible assumption | with_reducible exact KS.out | with_reducible exact KB.out _ | with_reducible exact KA.out _ _ (by assumption) | with_reducible exact KN.out _ _ _ (by assumption) | with_reducible exact KO.out _ _ (by assumption))
              (first
                | (go_at_call 16; refine (CT.out _ (by assumption)).mono ?_; rintro e_ w9 ⟨Q9, hq9, rfl, hb9⟩; have hI := STEP.out _ _ (by assumption) hb9; have HB9 := Lib.hid hb9; have HQ9 := Lib.hid hq9; have hs9 := (q28_sz hq9).1; have st2 := sto_new w9 Q9 hq9; clear hb9 hq9; (first | (have st3 := sto_old wr.heap.size w9 Q9 HQ9.out (Below28 HB9.out (by simp) (by first | exact Blk.drew (Blk.new _ 64 z28) | exact Blk.new _ 64 z28))) | skip); unfold LJ at hI))
            all_goals
              go_wp2_with fail
              go_meet
              first
              | exact ⟨w9.heap.size, rfl, rfl, Lib.hid (by rw [← HQ9.out]; exact Blk.fill (Blk.new w9 64 z28) Q9 (by rw [(q28_sz HQ9.out).1]; rfl)), Lib.hid (And.left (KN.out _ _ _ hI))⟩
              | exact ⟨wr.heap.size, rfl, rfl, Lib.hid (by rw [← HQ9.out]; exact Blk.fill (Below28 HB9.out (by simp) (by first | exact Blk.drew (Blk.new _ 64 z28) | exact Blk.new _ 64 z28)) Q9 (by rw [(q28_sz HQ9.out).1]; rfl)), Lib.hid (And.left (KO.out _ _ hI))⟩
          case rest =>
            obtain ⟨q2, rfl, rfl, BQ2, hb2⟩ := hcut
            have RB2 := Lib.hid (RB.out.trans (hb2.out.mono RB.out.size))
            have X2 := Lib.hid (X1.out.below hb2.out X1.out.lt)
            have TQ2 := Lib.hid (tab_q (n := 1) (K := fun i => kd (C i)) (T := fun i => tx (C i)) (W := W') (L := Lf) BQ2.out)
            clear RT XC START STEP CT BQ2 hb2 X1 RB KA KN KO KS KB
            go_wp2_with fail
            go_loopw [24, 25] (fun sm i wq => ∃ s : Nat, s ≤ 4 ∧ i = .int .i64 s ∧ sm = .bool (eqB C 1 s) ∧ Hid (Below wc.heap.size wc wq)) (fun _ i _ => 4 - (intOf i).toNat)
            case atStart => exact ⟨0, by omega, rfl, rfl, Lib.hid (Below.refl _ _)⟩
            case round =>
              obtain ⟨s, hs, rfl, rfl, RJ⟩ := hrel
              by_cases hlt5 : s < 4
              · as_aux_lemma =>
                have XQ := Lib.hid (TQ2.out.below RJ.out TQ2.out.lt)
                have X3 := Lib.hid (X2.out.below RJ.out X2.out.lt)
                have p1 : (0 : Int) ≤ (s : Int) := by omega
                have p2 : (s : Int) < 4 := by omega
                have hsl : sel 1 s < 4 := Nat.lt_of_lt_of_le (sel_lt (n := 1) (i := s) (by omega) (by omega)) (by omega)
                have HEQ := Lib.hid (eqT_cc (C (sel 1 s)) (C s) ⟨(H5.out _ hsl).1, by have := (H5.out _ hsl).2; omega⟩ ⟨(H5.out _ hlt5).1, by have := (H5.out _ hlt5).2; omega⟩)
                have START := Lib.hid (show GK q2 cb s (C (sel 1 s)) (C s) (Lf (sel 1 s)) (W' (sel 1 s)) wr wr.drew from ⟨(Below.refl _ _).drew, XQ.out.lt, X3.out.lt, XQ.out.cell (i := s) (j := 0) hlt5 (by omega), XQ.out.cell (i := s) (j := 1) hlt5 (by omega), XQ.out.cell (i := s) (j := 2) hlt5 (by omega), XQ.out.cell (i := s) (j := 3) hlt5 (by omega), XQ.out.cell (i := s) (j := 4) hlt5 (by omega), XQ.out.cell (i := s) (j := 5) hlt5 (by omega), XQ.out.cell (i := s) (j := 6) hlt5 (by omega), tcell1 X3.out hlt5⟩)
                have STEP := Lib.hid (fun w1 w2 (h : GK q2 cb s (C (sel 1 s)) (C s) (Lf (sel 1 s)) (W' (sel 1 s)) wr w1) (hb : Below w1.heap.size w1 w2) => h.step hb)
                have EB := Lib.hid (show eqB C 1 (s + 1) = (eqB C 1 s && (C (sel 1 s) == C s)) from rfl)
                clear hsl TQ2 X2 HMIN
                generalize Lf (sel 1 s) = lq at *
                generalize W' (sel 1 s) = wq at *
                generalize C (sel 1 s) = a at *
                generalize C s = c at *
                go_upto_region 42 with fail
                go_cut [175] from 168 to 175 (fun s_ wx => s_ = .bool (!(a == c)) ∧ Hid (Below wr.heap.size wr wx))
                case first =>
                  go_region_held3 (fun w' => Below wr.heap.size wr w' ∧ q2 < wr.heap.size ∧ cb < wr.heap.size ∧ w'.cell? ⟨q2, s * 7, none⟩ = some (.pointer none) ∧ w'.cell? ⟨q2, s * 7 + 1, none⟩ = some (.string (tx a)) ∧ w'.cell? ⟨q2, s * 7 + 2, none⟩ = some (.int .i32 lq) ∧ w'.cell? ⟨q2, s * 7 + 3, none⟩ = some (.int .u32 0) ∧ w'.cell? ⟨q2, s * 7 + 4, none⟩ = some (.int .u16 0) ∧ w'.cell? ⟨q2, s * 7 + 5, none⟩ = some (.int .u8 (kd a)) ∧ w'.cell? ⟨q2, s * 7 + 6, none⟩ = some (.int .u8 wq) ∧ w'.cell? ⟨cb, s, none⟩ = some (.int .u8 c))
                    (first | assumption | exact START.out)
                    (first | (go_at_call 17; refine (isTok17 (tx a) lq (kd a) wq c _).mono ?_; rintro e_ w9 ⟨rfl, hb9⟩; rw [HEQ.out]; have hI := STEP.out _ _ (by assumption) hb9; clear hb9; unfold GK at hI))
                  all_goals
                    go_wp2_with fail
                    go_meet
                    exact ⟨rfl, Lib.hid (And.left (show GK q2 cb s a c lq wq wr w9 by assumption))⟩
                case rest =>
                  obtain ⟨rfl, hbc⟩ := hcut
                  have RJ2 := Lib.hid (RJ.out.trans (hbc.out.mono RJ.out.size))
                  clear hbc RJ START STEP X3 XQ
                  cases hac : (a == c) with
                  | true =>
                    have EC := Lib.hid hac
                    clear hac
                    go_wp2_with fail
                    go_roundw
                    case rel => exact ⟨s + 1, by omega, by go_num, by rw [EB.out, EC.out, Bool.and_true], RJ2⟩
                    case measure => simp [intOf]; omega
                  | false =>
                    have EC := Lib.hid hac
                    clear hac
                    go_wp2_with fail
                    go_roundw
                    case rel => exact ⟨s + 1, by omega, by go_num, by rw [EB.out, EC.out, Bool.and_false], RJ2⟩
                    case measure => simp [intOf]; omega
              · obtain rfl : s = 4 := by omega
                have hx := eqB_xpd (C := C) (n := 1) (by omega) (by omega)
                rw [HMIN.out] at hx
                rw [hx]
                go_wp2_with fail
                go_ret
                exact ⟨rfl, R0.out.trans ((RB2.out.trans (RJ.out.mono RB2.out.size)).mono R0.out.size)⟩
        · as_aux_lemma =>
          have RT := Lib.hid (TR.le (show 2 ≤ 3 by omega) (TR.below R1.out RB.out))
          have XC := Lib.hid (X1.out)
          have START := Lib.hid (show LJ dd tg 3 wr wr.drew from ⟨(Below.refl _ _).drew, Nat.lt_of_lt_of_le hdl RB.out.size, d1⟩)
          have STEP := Lib.hid (fun w1 w2 (h : LJ dd tg 3 wr w1) (hb : Below w1.heap.size w1 w2) => h.step hb)
          have KA := Lib.hid (fun (w1 : World) (ob : Obj) (h : (Below wr.heap.size wr w1 ∧ dd < wr.heap.size ∧ World.cell? w1 ⟨dd, 1, none⟩ = some (.slice (some ⟨tg, 0, none⟩) 3 4))) => show (Below wr.heap.size wr (w1.alloc ob) ∧ dd < wr.heap.size ∧ World.cell? (w1.alloc ob) ⟨dd, 1, none⟩ = some (.slice (some ⟨tg, 0, none⟩) 3 4)) from LJ.step (dd := dd) (tg := tg) (mm := 3) h ((Below.refl _ _).alloc (Nat.le_refl _) ob))
          have KN := Lib.hid (fun (w1 : World) (ob : Obj) (cs : List Value) (h : (Below wr.heap.size wr w1 ∧ dd < wr.heap.size ∧ World.cell? w1 ⟨dd, 1, none⟩ = some (.slice (some ⟨tg, 0, none⟩) 3 4))) => show (Below wr.heap.size wr ((w1.alloc ob).setCells w1.heap.size 0 cs) ∧ dd < wr.heap.size ∧ World.cell? ((w1.alloc ob).setCells w1.heap.size 0 cs) ⟨dd, 1, none⟩ = some (.slice (some ⟨tg, 0, none⟩) 3 4)) from LJ.fillNew (dd := dd) (tg := tg) (mm := 3) h ob cs)
          have KO := Lib.hid (fun (w1 : World) (cs : List Value) (h : (Below wr.heap.size wr w1 ∧ dd < wr.heap.size ∧ World.cell? w1 ⟨dd, 1, none⟩ = some (.slice (some ⟨tg, 0, none⟩) 3 4))) => show (Below wr.heap.size wr (w1.setCells wr.heap.size 0 cs) ∧ dd < wr.heap.size ∧ World.cell? (w1.setCells wr.heap.size 0 cs) ⟨dd, 1, none⟩ = some (.slice (some ⟨tg, 0, none⟩) 3 4)) from LJ.fillOld (dd := dd) (tg := tg) (mm := 3) h cs)
          have KS := Lib.hid (show (Below wr.heap.size wr wr.drew ∧ dd < wr.heap.size ∧ World.cell? wr.drew ⟨dd, 1, none⟩ = some (.slice (some ⟨tg, 0, none⟩) 3 4)) from START.out)
          have KB := Lib.hid (fun (ob : Obj) => show (Below wr.heap.size wr (wr.alloc ob).drew ∧ dd < wr.heap.size ∧ World.cell? (wr.alloc ob).drew ⟨dd, 1, none⟩ = some (.slice (some ⟨tg, 0, none⟩) 3 4)) from LJ.step (dd := dd) (tg := tg) (mm := 3) START.out (show Below wr.drew.heap.size wr.drew (wr.alloc ob).drew from ((Below.refl _ _).alloc (Nat.le_refl _) ob)))
          have CT := Lib.hid (fun (W : World) (h : LJ dd tg 3 wr W) => exp16 (some ⟨tg, 0, none⟩) 2 4 { data := #[97, 117, 116, 111] } (fun i => kd (C i)) (fun i => tx (C i)) W' Lf W (TR.below RT.out h.1) (by omega) (by omega) (okAll_code (by omega) (by omega) H5.out))
          have HMIN := Lib.hid (show xpd C 2 = false from by have := mc_min C (by rw [← H4.out]; omega); rw [← H4.out] at this; exact this)
          clear TQ T1 D1 R1
          go_upto_region 36 with fail
          clear q1 q2 q3 q4 hm1 hm4 hm2 hs hlt
          have swa : IntKind.i64.wrap (3 - 1) = 3 - 1 := by decide
          have swb : IntKind.i64.wrap 2 = 2 := by decide
          have swc : (0 : Int) ≤ 2 := by decide
          have swd : (2 : Int) ≤ 4 := by decide
          clear d1
          go_cut [22, 23] from 148 to 162 (fun p_ b_ wx => ∃ q2, p_ = .pointer (some ⟨q2, 0, none⟩) ∧ b_ = .bool true ∧ Hid (Blk wx q2 64 (q28 (fun i => kd (C i)) (fun i => tx (C i)) W' Lf (sel 2 0) (sel 2 1) (sel 2 2) (sel 2 3))) ∧ Hid (Below wr.heap.size wr wx))
          case first =>
            go_region_held3 (fun w' => Below wr.heap.size wr w' ∧ dd < wr.heap.size ∧ w'.cell? ⟨dd, 1, none⟩ = some (.slice (some ⟨tg, 0, none⟩) 3 4))
              (first | with_reducible assumption | with_reducible exact KS.out | with_reducible exact KB.out _ | with_reducible exact KA.out _ _ (by assumption) | with_reducible exact KN.out _ _ _ (by assumption) | with_reducible exact KO.out _ _ (by assumption))
              (first
                | (go_at_call 16; refine (CT.out _ (by assumption)).mono ?_; rintro e_ w9 ⟨Q9, hq9, rfl, hb9⟩; have hI := STEP.out _ _ (by assumption) hb9; have HB9 := Lib.hid hb9; have HQ9 := Lib.hid hq9; have hs9 := (q28_sz hq9).1; have st2 := sto_new w9 Q9 hq9; clear hb9 hq9; (first | (have st3 := sto_old wr.heap.size w9 Q9 HQ9.out (Below28 HB9.out (by simp) (by first | exact Blk.drew (Blk.new _ 64 z28) | exact Blk.new _ 64 z28))) | skip); unfold LJ at hI))
            all_goals
              go_wp2_with fail
              go_meet
              first
              | exact ⟨w9.heap.size, rfl, rfl, Lib.hid (by rw [← HQ9.out]; exact Blk.fill (Blk.new w9 64 z28) Q9 (by rw [(q28_sz HQ9.out).1]; rfl)), Lib.hid (And.left (KN.out _ _ _ hI))⟩
              | exact ⟨wr.heap.size, rfl, rfl, Lib.hid (by rw [← HQ9.out]; exact Blk.fill (Below28 HB9.out (by simp) (by first | exact Blk.drew (Blk.new _ 64 z28) | exact Blk.new _ 64 z28)) Q9 (by rw [(q28_sz HQ9.out).1]; rfl)), Lib.hid (And.left (KO.out _ _ hI))⟩
          case rest =>
            obtain ⟨q2, rfl, rfl, BQ2, hb2⟩ := hcut
            have RB2 := Lib.hid (RB.out.trans (hb2.out.mono RB.out.size))
            have X2 := Lib.hid (X1.out.below hb2.out X1.out.lt)
            have TQ2 := Lib.hid (tab_q (n := 2) (K := fun i => kd (C i)) (T := fun i => tx (C i)) (W := W') (L := Lf) BQ2.out)
            clear RT XC START STEP CT BQ2 hb2 X1 RB KA KN KO KS KB
            go_wp2_with fail
            go_loopw [24, 25] (fun sm i wq => ∃ s : Nat, s ≤ 4 ∧ i = .int .i64 s ∧ sm = .bool (eqB C 2 s) ∧ Hid (Below wc.heap.size wc wq)) (fun _ i _ => 4 - (intOf i).toNat)
            case atStart => exact ⟨0, by omega, rfl, rfl, Lib.hid (Below.refl _ _)⟩
            case round =>
              obtain ⟨s, hs, rfl, rfl, RJ⟩ := hrel
              by_cases hlt5 : s < 4
              · as_aux_lemma =>
                have XQ := Lib.hid (TQ2.out.below RJ.out TQ2.out.lt)
                have X3 := Lib.hid (X2.out.below RJ.out X2.out.lt)
                have p1 : (0 : Int) ≤ (s : Int) := by omega
                have p2 : (s : Int) < 4 := by omega
                have hsl : sel 2 s < 4 := Nat.lt_of_lt_of_le (sel_lt (n := 2) (i := s) (by omega) (by omega)) (by omega)
                have HEQ := Lib.hid (eqT_cc (C (sel 2 s)) (C s) ⟨(H5.out _ hsl).1, by have := (H5.out _ hsl).2; omega⟩ ⟨(H5.out _ hlt5).1, by have := (H5.out _ hlt5).2; omega⟩)
                have START := Lib.hid (show GK q2 cb s (C (sel 2 s)) (C s) (Lf (sel 2 s)) (W' (sel 2 s)) wr wr.drew from ⟨(Below.refl _ _).drew, XQ.out.lt, X3.out.lt, XQ.out.cell (i := s) (j := 0) hlt5 (by omega), XQ.out.cell (i := s) (j := 1) hlt5 (by omega), XQ.out.cell (i := s) (j := 2) hlt5 (by omega), XQ.out.cell (i := s) (j := 3) hlt5 (by omega), XQ.out.cell (i := s) (j := 4) hlt5 (by omega), XQ.out.cell (i := s) (j := 5) hlt5 (by omega), XQ.out.cell (i := s) (j := 6) hlt5 (by omega), tcell1 X3.out hlt5⟩)
                have STEP := Lib.hid (fun w1 w2 (h : GK q2 cb s (C (sel 2 s)) (C s) (Lf (sel 2 s)) (W' (sel 2 s)) wr w1) (hb : Below w1.heap.size w1 w2) => h.step hb)
                have EB := Lib.hid (show eqB C 2 (s + 1) = (eqB C 2 s && (C (sel 2 s) == C s)) from rfl)
                clear hsl TQ2 X2 HMIN
                generalize Lf (sel 2 s) = lq at *
                generalize W' (sel 2 s) = wq at *
                generalize C (sel 2 s) = a at *
                generalize C s = c at *
                go_upto_region 42 with fail
                go_cut [175] from 168 to 175 (fun s_ wx => s_ = .bool (!(a == c)) ∧ Hid (Below wr.heap.size wr wx))
                case first =>
                  go_region_held3 (fun w' => Below wr.heap.size wr w' ∧ q2 < wr.heap.size ∧ cb < wr.heap.size ∧ w'.cell? ⟨q2, s * 7, none⟩ = some (.pointer none) ∧ w'.cell? ⟨q2, s * 7 + 1, none⟩ = some (.string (tx a)) ∧ w'.cell? ⟨q2, s * 7 + 2, none⟩ = some (.int .i32 lq) ∧ w'.cell? ⟨q2, s * 7 + 3, none⟩ = some (.int .u32 0) ∧ w'.cell? ⟨q2, s * 7 + 4, none⟩ = some (.int .u16 0) ∧ w'.cell? ⟨q2, s * 7 + 5, none⟩ = some (.int .u8 (kd a)) ∧ w'.cell? ⟨q2, s * 7 + 6, none⟩ = some (.int .u8 wq) ∧ w'.cell? ⟨cb, s, none⟩ = some (.int .u8 c))
                    (first | assumption | exact START.out)
                    (first | (go_at_call 17; refine (isTok17 (tx a) lq (kd a) wq c _).mono ?_; rintro e_ w9 ⟨rfl, hb9⟩; rw [HEQ.out]; have hI := STEP.out _ _ (by assumption) hb9; clear hb9; unfold GK at hI))
                  all_goals
                    go_wp2_with fail
                    go_meet
                    exact ⟨rfl, Lib.hid (And.left (show GK q2 cb s a c lq wq wr w9 by assumption))⟩
                case rest =>
                  obtain ⟨rfl, hbc⟩ := hcut
                  have RJ2 := Lib.hid (RJ.out.trans (hbc.out.mono RJ.out.size))
                  clear hbc RJ START STEP X3 XQ
                  cases hac : (a == c) with
                  | true =>
                    have EC := Lib.hid hac
                    clear hac
                    go_wp2_with fail
                    go_roundw
                    case rel => exact ⟨s + 1, by omega, by go_num, by rw [EB.out, EC.out, Bool.and_true], RJ2⟩
                    case measure => simp [intOf]; omega
                  | false =>
                    have EC := Lib.hid hac
                    clear hac
                    go_wp2_with fail
                    go_roundw
                    case rel => exact ⟨s + 1, by omega, by go_num, by rw [EB.out, EC.out, Bool.and_false], RJ2⟩
                    case measure => simp [intOf]; omega
              · obtain rfl : s = 4 := by omega
                have hx := eqB_xpd (C := C) (n := 2) (by omega) (by omega)
                rw [HMIN.out] at hx
                rw [hx]
                go_wp2_with fail
                go_ret
                exact ⟨rfl, R0.out.trans ((RB2.out.trans (RJ.out.mono RB2.out.size)).mono R0.out.size)⟩
        · as_aux_lemma =>
          have RT := Lib.hid (TR.le (show 3 ≤ 4 by omega) (TR.below R1.out RB.out))
          have XC := Lib.hid (X1.out)
          have START := Lib.hid (show LJ dd tg 4 wr wr.drew from ⟨(Below.refl _ _).drew, Nat.lt_of_lt_of_le hdl RB.out.size, d1⟩)
          have STEP := Lib.hid (fun w1 w2 (h : LJ dd tg 4 wr w1) (hb : Below w1.heap.size w1 w2) => h.step hb)
          have KA := Lib.hid (fun (w1 : World) (ob : Obj) (h : (Below wr.heap.size wr w1 ∧ dd < wr.heap.size ∧ World.cell? w1 ⟨dd, 1, none⟩ = some (.slice (some ⟨tg, 0, none⟩) 4 4))) => show (Below wr.heap.size wr (w1.alloc ob) ∧ dd < wr.heap.size ∧ World.cell? (w1.alloc ob) ⟨dd, 1, none⟩ = some (.slice (some ⟨tg, 0, none⟩) 4 4)) from LJ.step (dd := dd) (tg := tg) (mm := 4) h ((Below.refl _ _).alloc (Nat.le_refl _) ob))
          have KN := Lib.hid (fun (w1 : World) (ob : Obj) (cs : List Value) (h : (Below wr.heap.size wr w1 ∧ dd < wr.heap.size ∧ World.cell? w1 ⟨dd, 1, none⟩ = some (.slice (some ⟨tg, 0, none⟩) 4 4))) => show (Below wr.heap.size wr ((w1.alloc ob).setCells w1.heap.size 0 cs) ∧ dd < wr.heap.size ∧ World.cell? ((w1.alloc ob).setCells w1.heap.size 0 cs) ⟨dd, 1, none⟩ = some (.slice (some ⟨tg, 0, none⟩) 4 4)) from LJ.fillNew (dd := dd) (tg := tg) (mm := 4) h ob cs)
          have KO := Lib.hid (fun (w1 : World) (cs : List Value) (h : (Below wr.heap.size wr w1 ∧ dd < wr.heap.size ∧ World.cell? w1 ⟨dd, 1, none⟩ = some (.slice (some ⟨tg, 0, none⟩) 4 4))) => show (Below wr.heap.size wr (w1.setCells wr.heap.size 0 cs) ∧ dd < wr.heap.size ∧ World.cell? (w1.setCells wr.heap.size 0 cs) ⟨dd, 1, none⟩ = some (.slice (some ⟨tg, 0, none⟩) 4 4)) from LJ.fillOld (dd := dd) (tg := tg) (mm := 4) h cs)
          have KS := Lib.hid (show (Below wr.heap.size wr wr.drew ∧ dd < wr.heap.size ∧ World.cell? wr.drew ⟨dd, 1, none⟩ = some (.slice (some ⟨tg, 0, none⟩) 4 4)) from START.out)
          have KB := Lib.hid (fun (ob : Obj) => show (Below wr.heap.size wr (wr.alloc ob).drew ∧ dd < wr.heap.size ∧ World.cell? (wr.alloc ob).drew ⟨dd, 1, none⟩ = some (.slice (some ⟨tg, 0, none⟩) 4 4)) from LJ.step (dd := dd) (tg := tg) (mm := 4) START.out (show Below wr.drew.heap.size wr.drew (wr.alloc ob).drew from ((Below.refl _ _).alloc (Nat.le_refl _) ob)))
          have CT := Lib.hid (fun (W : World) (h : LJ dd tg 4 wr W) => exp16 (some ⟨tg, 0, none⟩) 3 4 { data := #[97, 117, 116, 111] } (fun i => kd (C i)) (fun i => tx (C i)) W' Lf W (TR.below RT.out h.1) (by omega) (by omega) (okAll_code (by omega) (by omega) H5.out))
          have HMIN := Lib.hid (show xpd C 3 = false from by have := mc_min C (by rw [← H4.out]; omega); rw [← H4.out] at this; exact this)
          clear TQ T1 D1 R1
          go_upto_region 36 with fail
          clear q1 q2 q3 q4 hm1 hm4 hm2 hs hlt
          have swa : IntKind.i64.wrap (4 - 1) = 4 - 1 := by decide
          have swb : IntKind.i64.wrap 3 = 3 := by decide
          have swc : (0 : Int) ≤ 3 := by decide
          have swd : (3 : Int) ≤ 4 := by decide
          clear d1
          go_cut [22, 23] from 148 to 162 (fun p_ b_ wx => ∃ q2, p_ = .pointer (some ⟨q2, 0, none⟩) ∧ b_ = .bool true ∧ Hid (Blk wx q2 64 (q28 (fun i => kd (C i)) (fun i => tx (C i)) W' Lf (sel 3 0) (sel 3 1) (sel 3 2) (sel 3 3))) ∧ Hid (Below wr.heap.size wr wx))
          case first =>
            go_region_held3 (fun w' => Below wr.heap.size wr w' ∧ dd < wr.heap.size ∧ w'.cell? ⟨dd, 1, none⟩ = some (.slice (some ⟨tg, 0, none⟩) 4 4))
              (first | with_reducible assumption | with_reducible exact KS.out | with_reducible exact KB.out _ | with_reducible exact KA.out _ _ (by assumption) | with_reducible exact KN.out _ _ _ (by assumption) | with_reducible exact KO.out _ _ (by assumption))
              (first
                | (go_at_call 16; refine (CT.out _ (by assumption)).mono ?_; rintro e_ w9 ⟨Q9, hq9, rfl, hb9⟩; have hI := STEP.out _ _ (by assumption) hb9; have HB9 := Lib.hid hb9; have HQ9 := Lib.hid hq9; have hs9 := (q28_sz hq9).1; have st2 := sto_new w9 Q9 hq9; clear hb9 hq9; (first | (have st3 := sto_old wr.heap.size w9 Q9 HQ9.out (Below28 HB9.out (by simp) (by first | exact Blk.drew (Blk.new _ 64 z28) | exact Blk.new _ 64 z28))) | skip); unfold LJ at hI))
            all_goals
              go_wp2_with fail
              go_meet
              first
              | exact ⟨w9.heap.size, rfl, rfl, Lib.hid (by rw [← HQ9.out]; exact Blk.fill (Blk.new w9 64 z28) Q9 (by rw [(q28_sz HQ9.out).1]; rfl)), Lib.hid (And.left (KN.out _ _ _ hI))⟩
              | exact ⟨wr.heap.size, rfl, rfl, Lib.hid (by rw [← HQ9.out]; exact Blk.fill (Below28 HB9.out (by simp) (by first | exact Blk.drew (Blk.new _ 64 z28) | exact Blk.new _ 64 z28)) Q9 (by rw [(q28_sz HQ9.out).1]; rfl)), Lib.hid (And.left (KO.out _ _ hI))⟩
          case rest =>
            obtain ⟨q2, rfl, rfl, BQ2, hb2⟩ := hcut
            have RB2 := Lib.hid (RB.out.trans (hb2.out.mono RB.out.size))
            have X2 := Lib.hid (X1.out.below hb2.out X1.out.lt)
            have TQ2 := Lib.hid (tab_q (n := 3) (K := fun i => kd (C i)) (T := fun i => tx (C i)) (W := W') (L := Lf) BQ2.out)
            clear RT XC START STEP CT BQ2 hb2 X1 RB KA KN KO KS KB
            go_wp2_with fail
            go_loopw [24, 25] (fun sm i wq => ∃ s : Nat, s ≤ 4 ∧ i = .int .i64 s ∧ sm = .bool (eqB C 3 s) ∧ Hid (Below wc.heap.size wc wq)) (fun _ i _ => 4 - (intOf i).toNat)
            case atStart => exact ⟨0, by omega, rfl, rfl, Lib.hid (Below.refl _ _)⟩
            case round =>
              obtain ⟨s, hs, rfl, rfl, RJ⟩ := hrel
              by_cases hlt5 : s < 4
              · as_aux_lemma =>
                have XQ := Lib.hid (TQ2.out.below RJ.out TQ2.out.lt)
                have X3 := Lib.hid (X2.out.below RJ.out X2.out.lt)
                have p1 : (0 : Int) ≤ (s : Int) := by omega
                have p2 : (s : Int) < 4 := by omega
                have hsl : sel 3 s < 4 := Nat.lt_of_lt_of_le (sel_lt (n := 3) (i := s) (by omega) (by omega)) (by omega)
                have HEQ := Lib.hid (eqT_cc (C (sel 3 s)) (C s) ⟨(H5.out _ hsl).1, by have := (H5.out _ hsl).2; omega⟩ ⟨(H5.out _ hlt5).1, by have := (H5.out _ hlt5).2; omega⟩)
                have START := Lib.hid (show GK q2 cb s (C (sel 3 s)) (C s) (Lf (sel 3 s)) (W' (sel 3 s)) wr wr.drew from ⟨(Below.refl _ _).drew, XQ.out.lt, X3.out.lt, XQ.out.cell (i := s) (j := 0) hlt5 (by omega), XQ.out.cell (i := s) (j := 1) hlt5 (by omega), XQ.out.cell (i := s) (j := 2) hlt5 (by omega), XQ.out.cell (i := s) (j := 3) hlt5 (by omega), XQ.out.cell (i := s) (j := 4) hlt5 (by omega), XQ.out.cell (i := s) (j := 5) hlt5 (by omega), XQ.out.cell (i := s) (j := 6) hlt5 (by omega), tcell1 X3.out hlt5⟩)
                have STEP := Lib.hid (fun w1 w2 (h : GK q2 cb s (C (sel 3 s)) (C s) (Lf (sel 3 s)) (W' (sel 3 s)) wr w1) (hb : Below w1.heap.size w1 w2) => h.step hb)
                have EB := Lib.hid (show eqB C 3 (s + 1) = (eqB C 3 s && (C (sel 3 s) == C s)) from rfl)
                clear hsl TQ2 X2 HMIN
                generalize Lf (sel 3 s) = lq at *
                generalize W' (sel 3 s) = wq at *
                generalize C (sel 3 s) = a at *
                generalize C s = c at *
                go_upto_region 42 with fail
                go_cut [175] from 168 to 175 (fun s_ wx => s_ = .bool (!(a == c)) ∧ Hid (Below wr.heap.size wr wx))
                case first =>
                  go_region_held3 (fun w' => Below wr.heap.size wr w' ∧ q2 < wr.heap.size ∧ cb < wr.heap.size ∧ w'.cell? ⟨q2, s * 7, none⟩ = some (.pointer none) ∧ w'.cell? ⟨q2, s * 7 + 1, none⟩ = some (.string (tx a)) ∧ w'.cell? ⟨q2, s * 7 + 2, none⟩ = some (.int .i32 lq) ∧ w'.cell? ⟨q2, s * 7 + 3, none⟩ = some (.int .u32 0) ∧ w'.cell? ⟨q2, s * 7 + 4, none⟩ = some (.int .u16 0) ∧ w'.cell? ⟨q2, s * 7 + 5, none⟩ = some (.int .u8 (kd a)) ∧ w'.cell? ⟨q2, s * 7 + 6, none⟩ = some (.int .u8 wq) ∧ w'.cell? ⟨cb, s, none⟩ = some (.int .u8 c))
                    (first | assumption | exact START.out)
                    (first | (go_at_call 17; refine (isTok17 (tx a) lq (kd a) wq c _).mono ?_; rintro e_ w9 ⟨rfl, hb9⟩; rw [HEQ.out]; have hI := STEP.out _ _ (by assumption) hb9; clear hb9; unfold GK at hI))
                  all_goals
                    go_wp2_with fail
                    go_meet
                    exact ⟨rfl, Lib.hid (And.left (show GK q2 cb s a c lq wq wr w9 by assumption))⟩
                case rest =>
                  obtain ⟨rfl, hbc⟩ := hcut
                  have RJ2 := Lib.hid (RJ.out.trans (hbc.out.mono RJ.out.size))
                  clear hbc RJ START STEP X3 XQ
                  cases hac : (a == c) with
                  | true =>
                    have EC := Lib.hid hac
                    clear hac
                    go_wp2_with fail
                    go_roundw
                    case rel => exact ⟨s + 1, by omega, by go_num, by rw [EB.out, EC.out, Bool.and_true], RJ2⟩
                    case measure => simp [intOf]; omega
                  | false =>
                    have EC := Lib.hid hac
                    clear hac
                    go_wp2_with fail
                    go_roundw
                    case rel => exact ⟨s + 1, by omega, by go_num, by rw [EB.out, EC.out, Bool.and_false], RJ2⟩
                    case measure => simp [intOf]; omega
              · obtain rfl : s = 4 := by omega
                have hx := eqB_xpd (C := C) (n := 3) (by omega) (by omega)
                rw [HMIN.out] at hx
                rw [hx]
                go_wp2_with fail
                go_ret
                exact ⟨rfl, R0.out.trans ((RB2.out.trans (RJ.out.mono RB2.out.size)).mono R0.out.size)⟩
      · have q4 : ¬ (1 : Int) < (mm : Int) := by omega
        go_wp2_with fail
        go_ret
        exact ⟨rfl, R0.out.trans (RB.out.mono R0.out.size)⟩
end Go.Proofs.Ytioilpdjfplffaa.ZT
