/- Law 3: the code behind the choice of 'left'. Written by gen_boxl.py. -/
import Derived.Test.YtioilpdjfplffaaRj
import Derived.Test.YtioilpdjfplffaaRk
namespace Go.Proofs.Ytioilpdjfplffaa.ZT
open Go.RowKit Go.Proofs.Ytioilpdjfplffaa.TB
set_option linter.unusedVariables false
set_option linter.unusedSimpArgs false
noncomputable def rest59 : Code := (Try.f3.body.bind (fromAfter 58)).getD .skip
def inB (R : Nat → Nat) (k : Nat) : Bool := ((k : Int) == (R 0 : Int)) || (((k : Int) == (R 1 : Int)) || (((k : Int) == (R 2 : Int)) || ((k : Int) == (R 3 : Int))))
theorem inB_no {R : Nat → Nat} {k : Nat} (h : inB R k = false) (D : Nat → Option Nat) (L : Nat → Int) (dd : Nat) : fD D R dd k = D k ∧ fL L R k = L k := by
  have h0 : ¬ k = R 0 := fun e => by simp [inB, e] at h
  have h1 : ¬ k = R 1 := fun e => by simp [inB, e] at h
  have h2 : ¬ k = R 2 := fun e => by simp [inB, e] at h
  have h3 : ¬ k = R 3 := fun e => by simp [inB, e] at h
  simp [fD, fL, dk, lk, h0, h1, h2, h3]
theorem inB_yes {R : Nat → Nat} {k : Nat} (h : inB R k = true) (h3 : ¬ k = R 3) (D : Nat → Option Nat) (L : Nat → Int) (dd : Nat) : fD D R dd k = none ∧ fL L R k = 0 := by
  by_cases h2 : k = R 2
  · simp [fD, fL, dk, lk, h3, ← h2]
  · by_cases h1 : k = R 1
    · simp [fD, fL, dk, lk, h3, h2, ← h1]
    · have h0 : k = R 0 := by
        simp [inB] at h
        omega
      simp [fD, fL, dk, lk, h3, h2, h1, ← h0]
def EJ (dd tg mm ri bl : Nat) (CC : Nat → Int) (wr w' : World) : Prop :=
  Below wr.heap.size wr w' ∧ dd < wr.heap.size ∧ ri + 1 < wr.heap.size ∧ bl < wr.heap.size ∧ w'.cell? ⟨dd, 1, none⟩ = some (.slice (some ⟨tg, 0, none⟩) mm 4) ∧ w'.cell? ⟨ri + 1, 0, none⟩ = some (.int .u8 (CC 0)) ∧ w'.cell? ⟨ri + 1, 1, none⟩ = some (.int .u8 (CC 1)) ∧ w'.cell? ⟨ri + 1, 2, none⟩ = some (.int .u8 (CC 2)) ∧ w'.cell? ⟨ri + 1, 3, none⟩ = some (.int .u8 (CC 3)) ∧ w'.cell? ⟨bl, 0, none⟩ = some (.int .i32 1) ∧ w'.cell? ⟨bl, 1, none⟩ = some (.int .i32 2) ∧ w'.cell? ⟨bl, 2, none⟩ = some (.int .i32 3) ∧ w'.cell? ⟨bl, 3, none⟩ = some (.int .i32 4)
theorem EJ.step {dd tg mm ri bl : Nat} {CC : Nat → Int} {wr w1 w2 : World} (h : EJ dd tg mm ri bl CC wr w1) (hb : Below w1.heap.size w1 w2) : EJ dd tg mm ri bl CC wr w2 := by
  obtain ⟨h0, h1, h2, h3, x0, y0, y1, y2, y3, z0, z1, z2, z3⟩ := h
  have z := h0.size
  have e1 : dd < w1.heap.size := by omega
  have e2 : ri + 1 < w1.heap.size := by omega
  have e3 : bl < w1.heap.size := by omega
  exact ⟨h0.trans (hb.mono h0.size), h1, h2, h3, (hb.cell e1).trans x0, (hb.cell e2).trans y0, (hb.cell e2).trans y1, (hb.cell e2).trans y2, (hb.cell e2).trans y3, (hb.cell e3).trans z0, (hb.cell e3).trans z1, (hb.cell e3).trans z2, (hb.cell e3).trans z3⟩
set_option maxRecDepth 1000000 in
set_option maxHeartbeats 8000000 in
theorem tail59 (kk mw im av : Bool) (n g rg ri dd tg mm : Nat) (ls idx toks taint ks key m : Int) (d RR : Nat → Nat) (L CC W' : Nat → Int) (w0 w : World) (u9 u10 u11 u12 u13 u14 u15 u16 u17 u18 u25 u26 u27 u32 u33 u34 u35 u37 u38 u40 u41 u42 u44 u45 u46 u47 u48 u49 u50 u51 u52 u53 u54 u55 u56 u57 u58 u59 u60 u61 u62 u63 u64 u65 u66 u67 u68 u69 u70 u71 u72 u73 u74 u75 u76 u77 u78 u79 u80 u81 u82 u83 u84 u85 u86 u87 u88 u89 u90 u91 u92 u93 u94 u95 u96 u97 u98 u99 u100 u101 u102 u103 u104 u105 u106 u107 u108 u109 u110 u111 u112 u113 u114 u115 u116 u117 u118 u119 u120 u121 u122 u123 u124 u125 u126 u127 u128 u129 u130 u131 u132 u133 u134 u135 u136 u137 u138 u139 u140 u141 u142 u143 u144 u145 u146 u147 u148 u149 u150 u151 u152 u153 u154 u155 u156 u157 u158 u159 u160 u161 u162 u163 u164 u165 u166 u167 u168 u169 u170 u171 u172 u173 u174 u175 u176 u177 u178 u179 u180 u181 u182 u183 u184 u185 u186 u187 u188 u189 u190 u191 u192 u193 u194 u195 u196 u197 u198 u199 u200 u201 u202 u203 u204 u205 u206 u207 u208 u209 u210 u211 u212 u213 u214 u215 u216 u217 u218 u219 u220 u221 u222 u223 u224 u225 u226 u227 u228 u229 u230 u231 u232 u233 u234 u235 u236 u237 u238 u239 u240 u241 u242 u243 u244 u245 u246 u247 u248 u249 u250 u251 u252 u253 u254 u255 u256 u257 u258 u259 u260 u261 u262 u263 u264 u265 u266 u267 u268 u269 u270 u271 u272 u273 u274 u275 u276 u277 u278 u279 u280 u281 u282 u283 u284 u285 u286 u287 u288 u289 u290 u291 u292 u293 u294 u295 u296 u297 u298 u299 u300 u301 u302 u303 u304 u305 u306 u307 u308 u309 u310 u311 u312 u313 u314 u315 u316 u317 u318 u319 u320 u321 u322 u323 u324 u325 u326 u327 u328 u329 u330 u331 u332 u333 u334 u335 u336 u337 u338 u339 u340 u341 u342 u343 u344 u345 u346 u347 u348 u349 u350 u351 u352 u353 u354 u355 u356 u357 u358 u359 u360 u361 u362 u363 u364 u365 u366 u367 u368 u369 u370 u371 u372 u373 u374 u375 u376 : Value) (hn : n ≤ 4096)
    (h0 : Below w0.heap.size w0 w) (h1 : Tab w rg 48 2 n (rc (fD (fun i => some (d i)) RR dd) (fL L RR))) (h2 : Tab w (rg + 1) 30 1 n (fun i _ => .pointer (some ⟨d i, 0, none⟩))) (h3 : Tab w (rg + 1 + 1) 21 1 n (fun i _ => .int .i32 (L i)))
    (h4 : Tab w ri 49 1 4 (fun i _ => .int .i64 (RR i : Nat))) (h5 : Tab w (ri + 1) 50 1 4 (fun i _ => .int .u8 (CC i))) (h6 : Blk w dd 44 #[.string { data := #[109, 97, 114, 103, 105, 110] }, .slice (some ⟨tg, 0, none⟩) mm 4, .int .i32 ks, .int .i32 0, .int .u16 189, .bool im])
    (h7 : TR w (some ⟨tg, 0, none⟩) mm (tc (fun i => kd (CC i)) (fun i => tx (CC i)) W' (fun i => (i : Int) + 1))) (h8 : ∀ i, i < mm → W' i = wsv mm mw i) (h9 : mm = mc CC) (h10 : m = ml L RR 4) (hR : ∀ i, i < 4 → RR i < n) :
    Code.wp Try.prog rest59 (bodyPost Try.prog Try.f3 fun e w' => e = .returned (.bool true) ∧ Below w0.heap.size w0 w') ⟨#[.bool kk, .int .u16 n, .int .i32 ls, .int .u64 idx, .int .u16 toks, .int .u8 taint, .bool mw, .bool im, .int .i32 ks, u9, u10, u11, u12, u13, u14, u15, u16, u17, u18, .int .i64 n, .int .u16 key, .pointer (some ⟨g, 0, none⟩), .slice (some ⟨rg, 0, none⟩) n n, .slice (some ⟨rg + 1, 0, none⟩) n n, .slice (some ⟨rg + 1 + 1, 0, none⟩) n n, u25, u26, u27, .pointer (some ⟨ri, 0, none⟩), .pointer (some ⟨ri + 1, 0, none⟩), .pointer (some ⟨ri + 1 + 1, 0, none⟩), .bool av, u32, u33, u34, u35, .bool true, u37, u38, .int .i32 m, u40, u41, u42, .int .i64 (RR 3 : Nat), u44, u45, u46, u47, u48, u49, u50, u51, u52, u53, u54, u55, u56, u57, u58, u59, u60, u61, u62, u63, u64, u65, u66, u67, u68, u69, u70, u71, u72, u73, u74, u75, u76, u77, u78, u79, u80, u81, u82, u83, u84, u85, u86, u87, u88, u89, u90, u91, u92, u93, u94, u95, u96, u97, u98, u99, u100, u101, u102, u103, u104, u105, u106, u107, u108, u109, u110, u111, u112, u113, u114, u115, u116, u117, u118, u119, u120, u121, u122, u123, u124, u125, u126, u127, u128, u129, u130, u131, u132, u133, u134, u135, u136, u137, u138, u139, u140, u141, u142, u143, u144, u145, u146, u147, u148, u149, u150, u151, u152, u153, u154, u155, u156, u157, u158, u159, u160, u161, u162, u163, u164, u165, u166, u167, u168, u169, u170, u171, u172, u173, u174, u175, u176, u177, u178, u179, u180, u181, u182, u183, u184, u185, u186, u187, u188, u189, u190, u191, u192, u193, u194, u195, u196, u197, u198, u199, u200, u201, u202, u203, u204, u205, u206, u207, u208, u209, u210, u211, u212, u213, u214, u215, u216, u217, u218, u219, u220, u221, u222, u223, u224, u225, u226, u227, u228, u229, u230, u231, u232, u233, u234, u235, u236, u237, u238, u239, u240, u241, u242, u243, u244, u245, u246, u247, u248, u249, u250, u251, u252, u253, u254, u255, u256, u257, u258, u259, u260, u261, u262, u263, u264, u265, u266, u267, u268, u269, u270, u271, u272, u273, u274, u275, u276, u277, u278, u279, u280, u281, u282, u283, u284, u285, u286, u287, u288, u289, u290, u291, u292, u293, u294, u295, u296, u297, u298, u299, u300, u301, u302, u303, u304, u305, u306, u307, u308, u309, u310, u311, u312, u313, u314, u315, u316, u317, u318, u319, u320, u321, u322, u323, u324, u325, u326, u327, u328, u329, u330, u331, u332, u333, u334, u335, u336, u337, u338, u339, u340, u341, u342, u343, u344, u345, u346, u347, u348, u349, u350, u351, u352, u353, u354, u355, u356, u357, u358, u359, u360, u361, u362, u363, u364, u365, u366, u367, u368, u369, u370, u371, u372, u373, u374, u375, u376], []⟩ w := by
  conv => arg 2; whnf
  have H0 := Lib.hid h0
  have H1 := Lib.hid h1
  have H2 := Lib.hid h2
  have H3 := Lib.hid h3
  have H4 := Lib.hid h4
  have H5 := Lib.hid h5
  have H6 := Lib.hid h6
  have H7 := Lib.hid h7
  have H8 := Lib.hid h8
  have H9 := Lib.hid h9
  have H10 := Lib.hid h10
  have HR := Lib.hid hR
  clear h0 h1 h2 h3 h4 h5 h6 h7 h8 h9 h10 hR
  go_wp2_with fail
  go_loopw [44, 45] (fun i _ wr => ∃ k : Nat, k ≤ n ∧ i = .int .i64 k ∧ Hid (Below w.heap.size w wr)) (fun i _ _ => n - (intOf i).toNat)
  case atStart => exact ⟨0, by omega, rfl, Lib.hid (Below.refl _ _)⟩
  case round =>
    obtain ⟨k, hk, rfl, RB⟩ := hrel
    have T1 := Lib.hid (H1.out.below RB.out H1.out.lt)
    have T2 := Lib.hid (H2.out.below RB.out H2.out.lt)
    have T3 := Lib.hid (H3.out.below RB.out H3.out.lt)
    have T4 := Lib.hid (H4.out.below RB.out H4.out.lt)
    by_cases hlt : k < n
    · have q1 : (0 : Int) ≤ (k : Int) := by omega
      have q2 : (k : Int) < (n : Int) := by omega
      go_upto_region 62 with fail
      go_cut [45] (fun s wx => s = .bool (inB RR k) ∧ wx = wr)
      case first =>
        have c0 : wr.cell? ⟨ri, 0, none⟩ = some (.int .i64 (RR 0 : Nat)) := tcell1 T4.out (i := 0) (by omega)
        have c1 : wr.cell? ⟨ri, 1, none⟩ = some (.int .i64 (RR 1 : Nat)) := tcell1 T4.out (i := 1) (by omega)
        have c2 : wr.cell? ⟨ri, 2, none⟩ = some (.int .i64 (RR 2 : Nat)) := tcell1 T4.out (i := 2) (by omega)
        have c3 : wr.cell? ⟨ri, 3, none⟩ = some (.int .i64 (RR 3 : Nat)) := tcell1 T4.out (i := 3) (by omega)
        have IB : inB RR k = (((k : Int) == (RR 0 : Int)) || (((k : Int) == (RR 1 : Int)) || (((k : Int) == (RR 2 : Int)) || ((k : Int) == (RR 3 : Int))))) := rfl
        have IH := Lib.hid IB
        clear IB
        cases x0 : ((k : Int) == (RR 0 : Int)) <;> cases x1 : ((k : Int) == (RR 1 : Int)) <;> cases x2 : ((k : Int) == (RR 2 : Int)) <;> cases x3 : ((k : Int) == (RR 3 : Int))
        all_goals
          go_wp2_with fail
          go_meet
          exact ⟨by rw [IH.out, x0, x1, x2, x3]; rfl, rfl⟩
      case rest =>
        obtain ⟨rfl, rfl⟩ := hcut
        cases hin : inB RR k with
        | false =>
          have e1 := Lib.hid (inB_no hin (fun i => some (d i)) L dd)
          have hpe := fun W => neq_same ⟨d k, 0, none⟩ W
          have START := Lib.hid (show UJ rg (rg + 1) (rg + 1 + 1) k d L wc wc.drew from ⟨(Below.refl _ _).drew, T1.out.lt, T2.out.lt, T3.out.lt, by
              have := T1.out.cell (i := k) (j := 0) hlt (by omega)
              rw [Nat.add_zero] at this
              refine this.trans ?_
              show some (dv (fD (fun i => some (d i)) RR dd k)) = _
              rw [e1.out.1]; rfl, by
              refine (T1.out.cell (i := k) (j := 1) hlt (by omega)).trans ?_
              show some (Value.int .i32 (fL L RR k)) = _
              rw [e1.out.2], tcell1 T2.out hlt, tcell1 T3.out hlt⟩)
          have STEP := Lib.hid (fun w1 w2 (h : UJ rg (rg + 1) (rg + 1 + 1) k d L wc w1) (hb : Below w1.heap.size w1 w2) => h.step hb)
          clear hin e1
          go_upto_region 64 with fail
          go_cut [303] (fun s wx => s = .bool false ∧ Hid (Below wc.heap.size wc wx))
          case first =>
            go_region_held3 (fun w' => Below wc.heap.size wc w' ∧ rg < wc.heap.size ∧ rg + 1 < wc.heap.size ∧ rg + 1 + 1 < wc.heap.size ∧ w'.cell? ⟨rg, k * 2, none⟩ = some (.iface 30 (.pointer (some ⟨d k, 0, none⟩))) ∧ w'.cell? ⟨rg, k * 2 + 1, none⟩ = some (.int .i32 (L k)) ∧ w'.cell? ⟨rg + 1, k, none⟩ = some (.pointer (some ⟨d k, 0, none⟩)) ∧ w'.cell? ⟨rg + 1 + 1, k, none⟩ = some (.int .i32 (L k)))
              (first | assumption | exact START.out)
              (first | (go_at_call 12; refine (decl_some _ _ _).mono ?_; rintro e_ w9 ⟨rfl, hb9⟩; have hI := STEP.out _ _ (by assumption) hb9; clear hb9; unfold UJ at hI))
            all_goals
              go_wp2_with fail
              go_meet
              exact ⟨rfl, Lib.hid (And.left (show UJ rg (rg + 1) (rg + 1 + 1) k d L wc w9 by assumption))⟩
          case rest =>
            obtain ⟨rfl, hbc⟩ := hcut
            have RB2 := Lib.hid (RB.out.trans (hbc.out.mono RB.out.size))
            clear hbc RB START STEP T1 T2 T3 T4
            go_wp2_with fail
            go_roundw
            case rel => exact ⟨k + 1, by omega, by go_num, RB2⟩
            case measure => simp [intOf]; omega
        | true =>
          by_cases h3 : k = RR 3
          · have h3' : ((k : Int) == (RR 3 : Int)) = true := by simp [h3]
            clear hin
            go_wp2_with fail
            go_roundw
            case rel => exact ⟨k + 1, by omega, by go_num, RB⟩
            case measure => simp [intOf]; omega
          · have h3' : ((k : Int) == (RR 3 : Int)) = false := by simp; omega
            have e1 := inB_yes hin h3 (fun i => some (d i)) L dd
            have r0 : wc.cell? ⟨rg, k * 2, none⟩ = some .nilIface := by
              have := T1.out.cell (i := k) (j := 0) hlt (by omega)
              rw [Nat.add_zero] at this
              refine this.trans ?_
              show some (dv (fD (fun i => some (d i)) RR dd k)) = _
              rw [e1.1]; rfl
            have r1 : wc.cell? ⟨rg, k * 2 + 1, none⟩ = some (.int .i32 0) := by
              refine (T1.out.cell (i := k) (j := 1) hlt (by omega)).trans ?_
              show some (Value.int .i32 (fL L RR k)) = _
              rw [e1.2]
            have R1 := Lib.hid r1
            clear hin e1
            go_wp2_with fail
            refine (has_none _ _).mono ?_
            rintro e w9 ⟨rfl, hb9⟩
            have r2 : w9.cell? ⟨rg, k * 2 + 1, none⟩ = some (.int .i32 0) := by rw [hb9.cell (p := ⟨rg, k * 2 + 1, none⟩) T1.out.lt]; exact R1.out
            have RB2 := Lib.hid (RB.out.trans (hb9.mono RB.out.size))
            clear hb9 r0 r1
            go_wp2_with fail
            go_roundw
            case rel => exact ⟨k + 1, by omega, by go_num, RB2⟩
            case measure => simp [intOf]; omega
    · have hR3 : RR 3 < n := HR.out 3 (by omega)
      have q1 : (0 : Int) ≤ (RR 3 : Int) := by omega
      have q2 : (RR 3 : Int) < (n : Int) := by omega
      have r0 : wr.cell? ⟨rg, RR 3 * 2, none⟩ = some (.iface 30 (.pointer (some ⟨dd, 0, none⟩))) := by
        have := T1.out.cell (i := RR 3) (j := 0) hR3 (by omega)
        rw [Nat.add_zero] at this
        refine this.trans ?_
        show some (dv (fD (fun i => some (d i)) RR dd (RR 3))) = _
        unfold fD
        rw [if_pos rfl]; rfl
      have r1 : wr.cell? ⟨rg, RR 3 * 2 + 1, none⟩ = some (.int .i32 m) := by
        refine (T1.out.cell (i := RR 3) (j := 1) hR3 (by omega)).trans ?_
        show some (Value.int .i32 (fL L RR (RR 3))) = _
        unfold fL
        rw [if_pos rfl, H10.out]
      have R1 := Lib.hid r1
      go_wp2_with fail
      refine (decl_some _ _ _).mono ?_
      rintro e w9 ⟨rfl, hb9⟩
      have RB2 := Lib.hid (RB.out.trans (hb9.mono RB.out.size))
      have r2 : w9.cell? ⟨rg, RR 3 * 2 + 1, none⟩ = some (.int .i32 m) := by rw [hb9.cell (p := ⟨rg, RR 3 * 2 + 1, none⟩) T1.out.lt]; exact R1.out
      clear hb9 r0 r1 T1 T2 T3 T4 R1
      have B6 := Lib.hid (Blk.below H6.out RB2.out H6.out.lt)
      have T5 := Lib.hid (H5.out.below RB2.out H5.out.lt)
      have T7 := Lib.hid (H7.out.below RB2.out)
      have d0 : w9.cell? ⟨dd, 0, none⟩ = some (.string { data := #[109, 97, 114, 103, 105, 110] }) := B6.out.cell 0
      have d2 : w9.cell? ⟨dd, 2, none⟩ = some (.int .i32 ks) := B6.out.cell 2
      have d4 : w9.cell? ⟨dd, 4, none⟩ = some (.int .u16 189) := B6.out.cell 4
      have d5 : w9.cell? ⟨dd, 5, none⟩ = some (.bool im) := B6.out.cell 5
      cases im
      all_goals
        go_upto_region 75 with fail
        clear d0 d2 d4 d5
        have NB := Lib.hid (Blk.new w9 60 #[.int .i32 1, .int .i32 2, .int .i32 3, .int .i32 4])
        have BN := Lib.hid (show Below w9.heap.size w9 (w9.alloc (.cells #[.int .i32 1, .int .i32 2, .int .i32 3, .int .i32 4] 60)) from (Below.refl _ _).alloc (Nat.le_refl _) _)
        have hbl : w9.heap.size < (w9.alloc (.cells #[.int .i32 1, .int .i32 2, .int .i32 3, .int .i32 4] 60)).heap.size := by simp
        have N6 := Lib.hid (Blk.below B6.out BN.out B6.out.lt)
        have N5 := Lib.hid (T5.out.below BN.out T5.out.lt)
        have N7 := Lib.hid (TR.below T7.out BN.out)
        have NR := Lib.hid (RB2.out.trans (BN.out.mono RB2.out.size))
        clear B6 T5 T7 BN RB2
        generalize w9.alloc (.cells #[.int .i32 1, .int .i32 2, .int .i32 3, .int .i32 4] 60) = Wn at *
        generalize w9.heap.size = bl at *
        have START := Lib.hid (show EJ dd tg mm ri bl CC Wn Wn.drew from ⟨(Below.refl _ _).drew, N6.out.lt, N5.out.lt, hbl, N6.out.cell 1, tcell1 N5.out (i := 0) (by omega), tcell1 N5.out (i := 1) (by omega), tcell1 N5.out (i := 2) (by omega), tcell1 N5.out (i := 3) (by omega), NB.out.cell 0, NB.out.cell 1, NB.out.cell 2, NB.out.cell 3⟩)
        have STEP := Lib.hid (fun w1 w2 (h : EJ dd tg mm ri bl CC Wn w1) (hb : Below w1.heap.size w1 w2) => h.step hb)
        have CH := Lib.hid (fun (W : World) (h : EJ dd tg mm ri bl CC Wn W) => check14 tg mm 4 CC (fun i => (i : Int) + 1) W' mw W H9.out (TR.below N7.out h.1) H8.out)
        go_region_held3 (fun w' => Below Wn.heap.size Wn w' ∧ dd < Wn.heap.size ∧ ri + 1 < Wn.heap.size ∧ bl < Wn.heap.size ∧ w'.cell? ⟨dd, 1, none⟩ = some (.slice (some ⟨tg, 0, none⟩) mm 4) ∧ w'.cell? ⟨ri + 1, 0, none⟩ = some (.int .u8 (CC 0)) ∧ w'.cell? ⟨ri + 1, 1, none⟩ = some (.int .u8 (CC 1)) ∧ w'.cell? ⟨ri + 1, 2, none⟩ = some (.int .u8 (CC 2)) ∧ w'.cell? ⟨ri + 1, 3, none⟩ = some (.int .u8 (CC 3)) ∧ w'.cell? ⟨bl, 0, none⟩ = some (.int .i32 1) ∧ w'.cell? ⟨bl, 1, none⟩ = some (.int .i32 2) ∧ w'.cell? ⟨bl, 2, none⟩ = some (.int .i32 3) ∧ w'.cell? ⟨bl, 3, none⟩ = some (.int .i32 4))
          (first | assumption | exact START.out)
          (first | (go_at_call 14; refine (CH.out _ (by assumption)).mono ?_; rintro e_ w10 ⟨rfl, hb9⟩; have hI := STEP.out _ _ (by assumption) hb9; have NR2 := Lib.hid (NR.out.trans ((And.left (show EJ dd tg mm ri bl CC Wn w10 by assumption)).mono NR.out.size)); clear hb9; unfold EJ at hI))
        go_wp2_with fail
        go_ret
        exact ⟨rfl, H0.out.trans (NR2.out.mono H0.out.size)⟩
end Go.Proofs.Ytioilpdjfplffaa.ZT
