/- Law 3: the code behind 'fires'. Written by gen_boxm.py. -/
import Derived.Test.YtioilpdjfplffaaRl
namespace Go.Proofs.Ytioilpdjfplffaa.ZT
open Go.RowKit Go.Proofs.Ytioilpdjfplffaa.TB
set_option linter.unusedVariables false
set_option linter.unusedSimpArgs false
theorem mfin_eq {r b : Bool} {m : Int} (h : (r && decide (0 < m)) = b) : (if r = true ∧ 0 < m then 0 else m) = if b = true then 0 else m := by
  subst h
  cases r <;> simp
theorem st_dup {R : Nat → Nat} {L : Nat → Int} {s : Nat} (h : dupB R s s = true) : st3 R L (s + 1) = ⟨(st3 R L s).h, true, (st3 R L s).m⟩ := by rw [st3]; rw [if_pos h]
theorem st_new {R : Nat → Nat} {L : Nat → Int} {s : Nat} (h : dupB R s s = false) (hc : (!(st3 R L s).h) = true ∨ L (R s) < (st3 R L s).m) : st3 R L (s + 1) = ⟨true, (st3 R L s).r, L (R s)⟩ := by
  rw [st3, h, if_pos hc]; rfl
theorem st_old {R : Nat → Nat} {L : Nat → Int} {s : Nat} (h : dupB R s s = false) (hc : ¬ ((!(st3 R L s).h) = true ∨ L (R s) < (st3 R L s).m)) : st3 R L (s + 1) = st3 R L s := by
  rw [st3, h, if_neg hc]; rfl
set_option maxRecDepth 1000000 in
set_option maxHeartbeats 8000000 in
theorem tail37_yes (kk mw im av : Bool) (n g rg ri dd tg mm : Nat) (ls idx toks taint ks key : Int) (d RR : Nat → Nat) (L CC W' : Nat → Int) (w0 w : World) (u9 u10 u11 u12 u13 u14 u15 u16 u17 u18 u25 u26 u27 u32 u33 u34 u35 u37 u38 u39 u40 u41 u42 u43 u44 u45 u46 u47 u48 u49 u50 u51 u52 u53 u54 u55 u56 u57 u58 u59 u60 u61 u62 u63 u64 u65 u66 u67 u68 u69 u70 u71 u72 u73 u74 u75 u76 u77 u78 u79 u80 u81 u82 u83 u84 u85 u86 u87 u88 u89 u90 u91 u92 u93 u94 u95 u96 u97 u98 u99 u100 u101 u102 u103 u104 u105 u106 u107 u108 u109 u110 u111 u112 u113 u114 u115 u116 u117 u118 u119 u120 u121 u122 u123 u124 u125 u126 u127 u128 u129 u130 u131 u132 u133 u134 u135 u136 u137 u138 u139 u140 u141 u142 u143 u144 u145 u146 u147 u148 u149 u150 u151 u152 u153 u154 u155 u156 u157 u158 u159 u160 u161 u162 u163 u164 u165 u166 u167 u168 u169 u170 u171 u172 u173 u174 u175 u176 u177 u178 u179 u180 u181 u182 u183 u184 u185 u186 u187 u188 u189 u190 u191 u192 u193 u194 u195 u196 u197 u198 u199 u200 u201 u202 u203 u204 u205 u206 u207 u208 u209 u210 u211 u212 u213 u214 u215 u216 u217 u218 u219 u220 u221 u222 u223 u224 u225 u226 u227 u228 u229 u230 u231 u232 u233 u234 u235 u236 u237 u238 u239 u240 u241 u242 u243 u244 u245 u246 u247 u248 u249 u250 u251 u252 u253 u254 u255 u256 u257 u258 u259 u260 u261 u262 u263 u264 u265 u266 u267 u268 u269 u270 u271 u272 u273 u274 u275 u276 u277 u278 u279 u280 u281 u282 u283 u284 u285 u286 u287 u288 u289 u290 u291 u292 u293 u294 u295 u296 u297 u298 u299 u300 u301 u302 u303 u304 u305 u306 u307 u308 u309 u310 u311 u312 u313 u314 u315 u316 u317 u318 u319 u320 u321 u322 u323 u324 u325 u326 u327 u328 u329 u330 u331 u332 u333 u334 u335 u336 u337 u338 u339 u340 u341 u342 u343 u344 u345 u346 u347 u348 u349 u350 u351 u352 u353 u354 u355 u356 u357 u358 u359 u360 u361 u362 u363 u364 u365 u366 u367 u368 u369 u370 u371 u372 u373 u374 u375 u376 : Value) (hn : n ≤ 4096)
    (h0 : Below w0.heap.size w0 w) (h1 : Tab w rg 48 2 n (rc (fD (fun i => some (d i)) RR dd) (fL L RR))) (h2 : Tab w (rg + 1) 30 1 n (fun i _ => .pointer (some ⟨d i, 0, none⟩))) (h3 : Tab w (rg + 1 + 1) 21 1 n (fun i _ => .int .i32 (L i)))
    (h4 : Tab w ri 49 1 4 (fun i _ => .int .i64 (RR i : Nat))) (h5 : Tab w (ri + 1) 50 1 4 (fun i _ => .int .u8 (CC i))) (h6 : Blk w dd 44 #[.string { data := #[109, 97, 114, 103, 105, 110] }, .slice (some ⟨tg, 0, none⟩) mm 4, .int .i32 ks, .int .i32 0, .int .u16 189, .bool im])
    (h7 : TR w (some ⟨tg, 0, none⟩) mm (tc (fun i => kd (CC i)) (fun i => tx (CC i)) W' (fun i => (i : Int) + 1))) (h8 : ∀ i, i < mm → W' i = wsv mm mw i) (h9 : mm = mc CC) (hR : ∀ i, i < 4 → RR i < n) :
    Code.wp Try.prog rest37 (bodyPost Try.prog Try.f3 fun e w' => e = .returned (.bool true) ∧ Below w0.heap.size w0 w') ⟨#[.bool kk, .int .u16 n, .int .i32 ls, .int .u64 idx, .int .u16 toks, .int .u8 taint, .bool mw, .bool im, .int .i32 ks, u9, u10, u11, u12, u13, u14, u15, u16, u17, u18, .int .i64 n, .int .u16 key, .pointer (some ⟨g, 0, none⟩), .slice (some ⟨rg, 0, none⟩) n n, .slice (some ⟨rg + 1, 0, none⟩) n n, .slice (some ⟨rg + 1 + 1, 0, none⟩) n n, u25, u26, u27, .pointer (some ⟨ri, 0, none⟩), .pointer (some ⟨ri + 1, 0, none⟩), .pointer (some ⟨ri + 1 + 1, 0, none⟩), .bool av, u32, u33, u34, u35, .bool true, u37, u38, u39, u40, u41, u42, u43, u44, u45, u46, u47, u48, u49, u50, u51, u52, u53, u54, u55, u56, u57, u58, u59, u60, u61, u62, u63, u64, u65, u66, u67, u68, u69, u70, u71, u72, u73, u74, u75, u76, u77, u78, u79, u80, u81, u82, u83, u84, u85, u86, u87, u88, u89, u90, u91, u92, u93, u94, u95, u96, u97, u98, u99, u100, u101, u102, u103, u104, u105, u106, u107, u108, u109, u110, u111, u112, u113, u114, u115, u116, u117, u118, u119, u120, u121, u122, u123, u124, u125, u126, u127, u128, u129, u130, u131, u132, u133, u134, u135, u136, u137, u138, u139, u140, u141, u142, u143, u144, u145, u146, u147, u148, u149, u150, u151, u152, u153, u154, u155, u156, u157, u158, u159, u160, u161, u162, u163, u164, u165, u166, u167, u168, u169, u170, u171, u172, u173, u174, u175, u176, u177, u178, u179, u180, u181, u182, u183, u184, u185, u186, u187, u188, u189, u190, u191, u192, u193, u194, u195, u196, u197, u198, u199, u200, u201, u202, u203, u204, u205, u206, u207, u208, u209, u210, u211, u212, u213, u214, u215, u216, u217, u218, u219, u220, u221, u222, u223, u224, u225, u226, u227, u228, u229, u230, u231, u232, u233, u234, u235, u236, u237, u238, u239, u240, u241, u242, u243, u244, u245, u246, u247, u248, u249, u250, u251, u252, u253, u254, u255, u256, u257, u258, u259, u260, u261, u262, u263, u264, u265, u266, u267, u268, u269, u270, u271, u272, u273, u274, u275, u276, u277, u278, u279, u280, u281, u282, u283, u284, u285, u286, u287, u288, u289, u290, u291, u292, u293, u294, u295, u296, u297, u298, u299, u300, u301, u302, u303, u304, u305, u306, u307, u308, u309, u310, u311, u312, u313, u314, u315, u316, u317, u318, u319, u320, u321, u322, u323, u324, u325, u326, u327, u328, u329, u330, u331, u332, u333, u334, u335, u336, u337, u338, u339, u340, u341, u342, u343, u344, u345, u346, u347, u348, u349, u350, u351, u352, u353, u354, u355, u356, u357, u358, u359, u360, u361, u362, u363, u364, u365, u366, u367, u368, u369, u370, u371, u372, u373, u374, u375, u376], []⟩ w := by
  conv => arg 2; whnf
  have H0 := Lib.hid h0
  have H1 := Lib.hid h1
  have H2 := Lib.hid h2
  have H3 := Lib.hid h3
  have H4 := Lib.hid h4
  have H5 := Lib.hid h5
  have H6 := Lib.hid h6
  have H7 := Lib.hid h7
  have H8 := Lib.hid h8
  have H9 := Lib.hid h9
  have HR := Lib.hid hR
  clear h0 h1 h2 h3 h4 h5 h6 h7 h8 h9 hR
  go_wp2_with fail
  go_loopw [37, 38, 39, 40, 41, 42] (fun h r m i _ _ wr => ∃ s : Nat, s ≤ 4 ∧ i = .int .i64 s ∧ h = .bool (st3 RR L s).h ∧ r = .bool (st3 RR L s).r ∧ m = .int .i32 (st3 RR L s).m ∧ Hid (Below w.heap.size w wr)) (fun _ _ _ i _ _ _ => 4 - (intOf i).toNat)
  case atStart => exact ⟨0, by omega, rfl, rfl, rfl, rfl, Lib.hid (Below.refl _ _)⟩
  case round =>
    obtain ⟨s, hs, rfl, rfl, rfl, rfl, RB⟩ := hrel
    by_cases hlt : s < 4
    · have q1 : (0 : Int) ≤ (s : Int) := by omega
      have q2 : (s : Int) < 4 := by omega
      generalize hst : st3 RR L s = S at *
      have HST := Lib.hid hst
      clear hst
      go_wp2_with fail
      go_loopw [41, 42] (fun du t wq => ∃ j : Nat, j ≤ s ∧ t = .int .i64 j ∧ du = .bool (dupB RR s j) ∧ Hid (Below w.heap.size w wq)) (fun _ t _ => s - (intOf t).toNat)
      case atStart => exact ⟨0, by omega, rfl, rfl, RB⟩
      case round =>
        obtain ⟨j, hj, rfl, rfl, RJ⟩ := hrel
        clear RB
        have T4 := Lib.hid (H4.out.below RJ.out H4.out.lt)
        have T3 := Lib.hid (H3.out.below RJ.out H3.out.lt)
        have cs := tcell1 T4.out (i := s) hlt
        by_cases hlj : j < s
        · as_aux_lemma =>
          have q3 : (0 : Int) ≤ (j : Int) := by omega
          have q4 : (j : Int) < 4 := by omega
          have q5 : (j : Int) < (s : Int) := by omega
          have cj := tcell1 T4.out (i := j) (by omega)
          go_upto_region 49 with fail
          go_cut [225] from 219 to 225 (fun s_ wx => s_ = .bool ((RR j : Int) == (RR s : Int)) ∧ Hid (Below wr.heap.size wr wx))
          case first =>
            have BD := Lib.hid (Below.refl wr.heap.size wr)
            go_region
            all_goals
              go_wp2_with fail
              go_meet
              exact ⟨rfl, Lib.hid BD.out.drew⟩
          case rest =>
            obtain ⟨rfl, hbc⟩ := hcut
            have RB2 := Lib.hid (RJ.out.trans (hbc.out.mono RJ.out.size))
            clear hbc RJ T4 T3 cs cj
            cases hjs : ((RR j : Int) == (RR s : Int)) with
            | true =>
              have e1 : dupB RR s (j + 1) = true := by
                have : RR j = RR s := by simp at hjs; omega
                simp [dupB, this]
              have E1 := Lib.hid e1
              clear hjs e1
              go_wp2_with fail
              go_roundw
              case rel => exact ⟨j + 1, by omega, by go_num, by rw [E1.out], RB2⟩
              case measure => simp [intOf]; omega
            | false =>
              have e1 : dupB RR s (j + 1) = dupB RR s j := by
                have : ¬ RR j = RR s := by simp at hjs; omega
                simp [dupB, this]
              have E1 := Lib.hid e1
              clear hjs e1
              go_wp2_with fail
              go_roundw
              case rel => exact ⟨j + 1, by omega, by go_num, by rw [E1.out], RB2⟩
              case measure => simp [intOf]; omega
        · as_aux_lemma =>
          obtain rfl : s = j := by omega
          have hRs : RR s < n := HR.out s hlt
          have p1 : (0 : Int) ≤ (RR s : Int) := by omega
          have p2 : (RR s : Int) < (n : Int) := by omega
          have co := tcell1 T3.out (i := RR s) hRs
          cases hd : dupB RR s s with
          | true =>
            have E1 := Lib.hid (st_dup (L := L) hd)
            clear hd cs co
            go_wp2_with fail
            go_roundw
            case rel => exact ⟨s + 1, by omega, by go_num, by rw [E1.out, HST.out], by rw [E1.out], by rw [E1.out, HST.out], RJ⟩
            case measure => simp [intOf]; omega
          | false =>
            cases hh : S.h with
            | false =>
              have E1 := Lib.hid (st_new (R := RR) (L := L) (s := s) hd (.inl (by rw [HST.out, hh]; rfl)))
              clear hd
              go_wp2_with fail
              go_roundw
              case rel => exact ⟨s + 1, by omega, by go_num, by rw [E1.out], by rw [E1.out, HST.out], by rw [E1.out], RJ⟩
              case measure => simp [intOf]; omega
            | true =>
              by_cases hl : L (RR s) < S.m
              · as_aux_lemma =>
                have E1 := Lib.hid (st_new (R := RR) (L := L) (s := s) hd (.inr (by rw [HST.out]; exact hl)))
                clear hd
                go_wp2_with fail
                go_roundw
                case rel => exact ⟨s + 1, by omega, by go_num, by rw [E1.out], by rw [E1.out, HST.out], by rw [E1.out], RJ⟩
                case measure => simp [intOf]; omega
              · as_aux_lemma =>
                have E1 := Lib.hid (st_old (R := RR) (L := L) (s := s) hd (by rw [HST.out, hh]; simp; omega))
                have HH := Lib.hid hh
                clear hd
                go_wp2_with fail
                go_roundw
                case rel => exact ⟨s + 1, by omega, by go_num, by rw [E1.out, HST.out, HH.out], by rw [E1.out, HST.out], by rw [E1.out, HST.out], RJ⟩
                case measure => simp [intOf]; omega
    · as_aux_lemma =>
      obtain rfl : s = 4 := by omega
      have EM : mFin RR L = if (st3 RR L 4).r = true ∧ 0 < (st3 RR L 4).m then 0 else (st3 RR L 4).m := rfl
      have HML := Lib.hid (mFin_ml RR L)
      generalize (st3 RR L 4).r = sr at *
      generalize (st3 RR L 4).m = sm at *
      generalize (st3 RR L 4).h = sh at *
      have HEM := Lib.hid EM
      clear EM
      go_upto_region 56 with fail
      go_cut [249] from 245 to 249 (fun s_ wx => s_ = .bool (sr && decide (0 < sm)) ∧ wx = wr)
      case first =>
        cases sr <;> by_cases hm : 0 < sm
        all_goals
          go_wp2_with fail
          go_meet
          exact ⟨by simp [hm], rfl⟩
      case rest =>
        obtain ⟨rfl, rfl⟩ := hcut
        go_upto_if 249 with fail
        go_cut [39] from 245 to 249 (fun s_ wx => s_ = .int .i32 (mFin RR L) ∧ wx = wc)
        case first =>
          cases hb : (sr && decide (0 < sm))
          all_goals
            go_wp2_with fail
            go_meet
            exact ⟨by rw [HEM.out, mfin_eq hb]; rfl, rfl⟩
        case rest =>
          obtain ⟨rfl, rfl⟩ := hcut
          rw [HML.out]
          have T4 := Lib.hid (H4.out.below RB.out H4.out.lt)
          have c3 : wc.cell? ⟨ri, 3, none⟩ = some (.int .i64 (RR 3 : Nat)) := tcell1 T4.out (i := 3) (by omega)
          go_upto_region 58 with fail
          go_cut [43] from 250 to 251 (fun s_ wx => s_ = .int .i64 (RR 3 : Nat) ∧ wx = wc)
          case first =>
            go_wp2_with fail
            go_meet
            exact ⟨rfl, rfl⟩
          case rest =>
            obtain ⟨rfl, rfl⟩ := hcut
            clear c3 T4
            refine tailApply (by assumption) ?_
            exact tail59 kk mw im av n g rg ri dd tg mm ls idx toks taint ks key _ d RR L CC W' w0 _ _ _ _ _ _ _ _ _ _ _ _ _ _ _ _ _ _ _ _ _ _ _ _ _ _ _ _ _ _ _ _ _ _ _ _ _ _ _ _ _ _ _ _ _ _ _ _ _ _ _ _ _ _ _ _ _ _ _ _ _ _ _ _ _ _ _ _ _ _ _ _ _ _ _ _ _ _ _ _ _ _ _ _ _ _ _ _ _ _ _ _ _ _ _ _ _ _ _ _ _ _ _ _ _ _ _ _ _ _ _ _ _ _ _ _ _ _ _ _ _ _ _ _ _ _ _ _ _ _ _ _ _ _ _ _ _ _ _ _ _ _ _ _ _ _ _ _ _ _ _ _ _ _ _ _ _ _ _ _ _ _ _ _ _ _ _ _ _ _ _ _ _ _ _ _ _ _ _ _ _ _ _ _ _ _ _ _ _ _ _ _ _ _ _ _ _ _ _ _ _ _ _ _ _ _ _ _ _ _ _ _ _ _ _ _ _ _ _ _ _ _ _ _ _ _ _ _ _ _ _ _ _ _ _ _ _ _ _ _ _ _ _ _ _ _ _ _ _ _ _ _ _ _ _ _ _ _ _ _ _ _ _ _ _ _ _ _ _ _ _ _ _ _ _ _ _ _ _ _ _ _ _ _ _ _ _ _ _ _ _ _ _ _ _ _ _ _ _ _ _ _ _ _ _ _ _ _ _ _ _ _ _ _ _ _ _ _ _ _ _ _ _ _ _ _ _ _ _ _ _ _ _ _ _ _ _ _ _ _ _ _ _ _ _ _ _ _ _ _ _ _ _ _ _ _ hn (H0.out.trans (RB.out.mono H0.out.size)) (H1.out.below RB.out H1.out.lt) (H2.out.below RB.out H2.out.lt) (H3.out.below RB.out H3.out.lt) (H4.out.below RB.out H4.out.lt) (H5.out.below RB.out H5.out.lt) (Blk.below H6.out RB.out H6.out.lt) (TR.below H7.out RB.out) H8.out H9.out rfl HR.out
end Go.Proofs.Ytioilpdjfplffaa.ZT
