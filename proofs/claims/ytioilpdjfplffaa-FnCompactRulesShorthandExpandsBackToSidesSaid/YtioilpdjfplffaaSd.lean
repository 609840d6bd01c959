/- Law 4: the code behind the call of compactRules. Written by gen_boxsd.py. -/
import Derived.Test.YtioilpdjfplffaaSc
import Derived.Test.YtioilpdjfplffaaRl
namespace Go.Proofs.Ytioilpdjfplffaa.ZT
open Go.RowKit Go.Proofs.Ytioilpdjfplffaa.TB
set_option linter.unusedVariables false
set_option linter.unusedSimpArgs false
noncomputable def sest16 : Code := (Try.f4.body.bind (fromAfter 15)).getD .skip
theorem inB_perm {P : Nat → Nat} (h : PI 4 (fun _ => 0) P) {k : Nat} (hk : k < 4) : inB P k = true := by
  unfold inB
  rcases h.all k hk with e | e | e | e <;> simp [← e]
set_option maxRecDepth 1000000 in
set_option maxHeartbeats 8000000 in
theorem sail16 (mw im : Bool) (g rg pb cb dd tg mm : Nat) (toks order : Int) (D : Nat → Option Nat) (L C W' Lf : Nat → Int) (P : Nat → Nat) (w0 w : World) (u4 u5 u6 u7 u8 u12 u13 u15 u16 u17 u18 u19 u20 u21 u22 u23 u24 u25 u26 u27 u28 u29 u30 u31 u32 u33 u34 u35 u36 u37 u38 u39 u40 u41 u42 u43 u44 u45 u46 u47 u48 u49 u50 u51 u52 u53 u54 u55 u56 u57 u58 u59 u60 u61 u62 u63 u64 u65 u66 u67 u68 u69 u70 u71 u72 u73 u74 u75 u76 u77 u78 u79 u80 u81 u82 u83 u84 u85 u86 u87 u88 u89 u90 u91 u92 u93 u94 u95 u96 u97 u98 u99 u100 u101 u102 u103 u104 u105 u106 u107 u108 u109 u110 u111 u112 u113 u114 u115 u116 u117 u118 u119 u120 u121 u122 u123 u124 u125 u126 u127 u128 u129 u130 u131 u132 u133 u134 u135 u136 u137 u138 u139 u140 u141 u142 u143 u144 u145 u146 u147 u148 u149 u150 u151 u152 u153 u154 u155 u156 u157 u158 u159 u160 u161 u162 u163 u164 u165 u166 u167 u168 u169 u170 u171 u172 u173 u174 u175 u176 : Value) (hp : PI 4 (fun _ => 0) P)
    (h0 : Below w0.heap.size w0 w) (h1 : Tab w cb 50 1 4 (fun i _ => .int .u8 (C i))) (h2 : dd < w.heap.size) (h2' : w.cell? ⟨dd, 1, none⟩ = some (.slice (some ⟨tg, 0, none⟩) mm 4)) (h3 : TR w (some ⟨tg, 0, none⟩) mm (tc (fun i => kd (C i)) (fun i => tx (C i)) W' Lf)) (h4 : mm = mc C) (h5 : ∀ i, i < 4 → 0 ≤ C i ∧ C i ≤ 3)
    (h6 : Tab w rg 48 2 4 (rc (fD D P dd) (fL L P))) (h7 : Tab w pb 49 1 4 (fun i _ => .int .i64 (P i : Nat))) :
    Code.wp Try.prog sest16 (bodyPost Try.prog Try.f4 fun e w' => e = .returned (.bool true) ∧ Below w0.heap.size w0 w') ⟨#[.int .u16 toks, .int .u8 order, .bool mw, .bool im, u4, u5, u6, u7, u8, .pointer (some ⟨pb, 0, none⟩), .pointer (some ⟨g, 0, none⟩), .slice (some ⟨rg, 0, none⟩) 4 4, u12, u13, .pointer (some ⟨cb, 0, none⟩), u15, u16, u17, u18, u19, u20, u21, u22, u23, u24, u25, u26, u27, u28, u29, u30, u31, u32, u33, u34, u35, u36, u37, u38, u39, u40, u41, u42, u43, u44, u45, u46, u47, u48, u49, u50, u51, u52, u53, u54, u55, u56, u57, u58, u59, u60, u61, u62, u63, u64, u65, u66, u67, u68, u69, u70, u71, u72, u73, u74, u75, u76, u77, u78, u79, u80, u81, u82, u83, u84, u85, u86, u87, u88, u89, u90, u91, u92, u93, u94, u95, u96, u97, u98, u99, u100, u101, u102, u103, u104, u105, u106, u107, u108, u109, u110, u111, u112, u113, u114, u115, u116, u117, u118, u119, u120, u121, u122, u123, u124, u125, u126, u127, u128, u129, u130, u131, u132, u133, u134, u135, u136, u137, u138, u139, u140, u141, u142, u143, u144, u145, u146, u147, u148, u149, u150, u151, u152, u153, u154, u155, u156, u157, u158, u159, u160, u161, u162, u163, u164, u165, u166, u167, u168, u169, u170, u171, u172, u173, u174, u175, u176], []⟩ w := by
  conv => arg 2; whnf
  have H0 := Lib.hid h0
  have H1 := Lib.hid h1
  have H2 := Lib.hid h2
  have H2' := Lib.hid h2'
  have H3 := Lib.hid h3
  have H4 := Lib.hid h4
  have H5 := Lib.hid h5
  have H6 := Lib.hid h6
  have H7 := Lib.hid h7
  have HP := Lib.hid hp
  clear h0 h1 h2 h2' h3 h4 h5 h6 h7 hp
  go_wp2_with fail
  go_loopw [16, 17] (fun c i wr => ∃ k : Nat, k ≤ 4 ∧ i = .int .i64 k ∧ c = .int .i64 ((if P 3 < k then 1 else 0 : Nat) : Int) ∧ Hid (Below w.heap.size w wr)) (fun _ i _ => 4 - (intOf i).toNat)
  case atStart => exact ⟨0, by omega, rfl, rfl, Lib.hid (Below.refl _ _)⟩
  case round =>
    obtain ⟨k, hk, rfl, rfl, RB⟩ := hrel
    have T6 := Lib.hid (H6.out.below RB.out H6.out.lt)
    have p3 : P 3 < 4 := HP.out.2.1 3 (by omega)
    by_cases hlt : k < 4
    · have q1 : (0 : Int) ≤ (k : Int) := by omega
      have q2 : (k : Int) < 4 := by omega
      by_cases h3 : k = P 3
      · have r0 : wr.cell? ⟨rg, k * 2, none⟩ = some (.iface 30 (.pointer (some ⟨dd, 0, none⟩))) := by
          have := T6.out.cell (i := k) (j := 0) hlt (by omega)
          rw [Nat.add_zero] at this
          refine this.trans ?_
          show some (dv (fD D P dd k)) = _
          unfold fD
          rw [if_pos h3]; rfl
        have r1 : wr.cell? ⟨rg, k * 2 + 1, none⟩ = some (.int .i32 (fL L P k)) := T6.out.cell (i := k) (j := 1) hlt (by omega)
        have E1 := Lib.hid (show (if P 3 < k then 1 else 0 : Nat) = 0 from if_neg (by omega))
        have E2 := Lib.hid (show (if P 3 < k + 1 then 1 else 0 : Nat) = 1 from if_pos (by omega))
        clear h3
        rw [E1.out]
        go_wp2_with fail
        refine (has_some _ _ _).mono ?_
        rintro e w9 ⟨rfl, hb9⟩
        have RB2 := Lib.hid (RB.out.trans (hb9.mono RB.out.size))
        clear hb9 r0 r1 T6
        go_wp2_with fail
        go_roundw
        case rel => exact ⟨k + 1, by omega, by go_num, by rw [E2.out]; rfl, RB2⟩
        case measure => simp [intOf]; omega
      · have e1 := inB_yes (inB_perm HP.out hlt) h3 D L dd
        have r0 : wr.cell? ⟨rg, k * 2, none⟩ = some .nilIface := by
          have := T6.out.cell (i := k) (j := 0) hlt (by omega)
          rw [Nat.add_zero] at this
          refine this.trans ?_
          show some (dv (fD D P dd k)) = _
          rw [e1.1]; rfl
        have r1 : wr.cell? ⟨rg, k * 2 + 1, none⟩ = some (.int .i32 (fL L P k)) := T6.out.cell (i := k) (j := 1) hlt (by omega)
        have E2 := Lib.hid (show (if P 3 < k + 1 then 1 else 0 : Nat) = (if P 3 < k then 1 else 0 : Nat) by by_cases h : P 3 < k <;> simp [h] <;> omega)
        clear e1
        generalize hcc : (if P 3 < k then 1 else 0 : Nat) = cc at *
        clear hcc
        go_wp2_with fail
        refine (has_none _ _).mono ?_
        rintro e w9 ⟨rfl, hb9⟩
        have RB2 := Lib.hid (RB.out.trans (hb9.mono RB.out.size))
        clear hb9 r0 r1 T6
        go_wp2_with fail
        go_roundw
        case rel => exact ⟨k + 1, by omega, by go_num, by rw [E2.out], RB2⟩
        case measure => simp [intOf]; omega
    · obtain rfl : k = 4 := by omega
      have E1 := Lib.hid (show (if P 3 < 4 then 1 else 0 : Nat) = 1 from if_pos p3)
      rw [E1.out]
      have T7 := Lib.hid (H7.out.below RB.out H7.out.lt)
      have c3 : wr.cell? ⟨pb, 3, none⟩ = some (.int .i64 (P 3 : Nat)) := tcell1 T7.out (i := 3) (by omega)
      have q1 : (0 : Int) ≤ (P 3 : Int) := by omega
      have q2 : (P 3 : Int) < 4 := by omega
      have r0 : wr.cell? ⟨rg, P 3 * 2, none⟩ = some (.iface 30 (.pointer (some ⟨dd, 0, none⟩))) := by
        have := T6.out.cell (i := P 3) (j := 0) p3 (by omega)
        rw [Nat.add_zero] at this
        refine this.trans ?_
        show some (dv (fD D P dd (P 3))) = _
        unfold fD
        rw [if_pos rfl]; rfl
      have r1 : wr.cell? ⟨rg, P 3 * 2 + 1, none⟩ = some (.int .i32 (fL L P (P 3))) := T6.out.cell (i := P 3) (j := 1) p3 (by omega)
      generalize fL L P (P 3) = l3 at *
      go_upto_region 24 with fail
      go_cut [18] from 96 to 101 (fun s_ wx => s_ = .pointer (some ⟨dd, 0, none⟩) ∧ Hid (Below wr.heap.size wr wx))
      case first =>
        go_wp2_with fail
        refine (decl_some _ _ _).mono ?_
        rintro e w9 ⟨rfl, hb9⟩
        have HB := Lib.hid hb9
        clear hb9
        go_wp2_with fail
        go_meet
        exact ⟨rfl, HB⟩
      case rest =>
        obtain ⟨rfl, hbc⟩ := hcut
        have RB2 := Lib.hid (RB.out.trans (hbc.out.mono RB.out.size))
        refine tailApply (by assumption) ?_
        exact sail25 mw im g rg pb cb dd tg mm toks order C W' Lf w0 _ _ _ _ _ _ _ _ _ _ _ _ _ _ _ _ _ _ _ _ _ _ _ _ _ _ _ _ _ _ _ _ _ _ _ _ _ _ _ _ _ _ _ _ _ _ _ _ _ _ _ _ _ _ _ _ _ _ _ _ _ _ _ _ _ _ _ _ _ _ _ _ _ _ _ _ _ _ _ _ _ _ _ _ _ _ _ _ _ _ _ _ _ _ _ _ _ _ _ _ _ _ _ _ _ _ _ _ _ _ _ _ _ _ _ _ _ _ _ _ _ _ _ _ _ _ _ _ _ _ _ _ _ _ _ _ _ _ _ _ _ _ _ _ _ _ _ _ _ _ _ _ _ _ _ _ _ _ _ _ _ _ _ _ _ _ _ _ (H0.out.trans (RB2.out.mono H0.out.size)) (H1.out.below RB2.out H1.out.lt) (Nat.lt_of_lt_of_le H2.out RB2.out.size) ((RB2.out.cell (p := ⟨dd, 1, none⟩) H2.out).trans H2'.out) (TR.below H3.out RB2.out) H4.out H5.out
end Go.Proofs.Ytioilpdjfplffaa.ZT
