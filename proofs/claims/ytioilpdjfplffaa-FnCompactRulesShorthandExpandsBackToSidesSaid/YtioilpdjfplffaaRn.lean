/- Law 3: the code behind the call of compactRules. Written by gen_boxn.py. -/
import Derived.Test.YtioilpdjfplffaaRm
namespace Go.Proofs.Ytioilpdjfplffaa.ZT
open Go.RowKit Go.Proofs.Ytioilpdjfplffaa.TB
set_option linter.unusedVariables false
set_option linter.unusedSimpArgs false
noncomputable def rest36 : Code := (Try.f3.body.bind (fromAfter 35)).getD .skip
/-- What memory holds behind a compaction that was made. -/
def YS (w0 : World) (rg ri n : Nat) (im mw : Bool) (ks : Int) (d RR : Nat → Nat) (L CC KK : Nat → Int) (w : World) : Prop :=
  Below w0.heap.size w0 w ∧ Tab w (rg + 1) 30 1 n (fun i _ => .pointer (some ⟨d i, 0, none⟩)) ∧ Tab w (rg + 1 + 1) 21 1 n (fun i _ => .int .i32 (L i)) ∧
    Tab w ri 49 1 4 (fun i _ => .int .i64 (RR i : Nat)) ∧ Tab w (ri + 1) 50 1 4 (fun i _ => .int .u8 (CC i)) ∧ Tab w (ri + 1 + 1) 49 1 4 (fun i _ => .int .i64 (KK i)) ∧
    ∃ (dd tg : Nat) (W' : Nat → Int), Tab w rg 48 2 n (rc (fD (fun i => some (d i)) RR dd) (fL L RR)) ∧ Blk w dd 44 #[.string { data := #[109, 97, 114, 103, 105, 110] }, .slice (some ⟨tg, 0, none⟩) (mc CC) 4, .int .i32 ks, .int .i32 0, .int .u16 189, .bool im] ∧
      TR w (some ⟨tg, 0, none⟩) (mc CC) (tc (fun i => kd (CC i)) (fun i => tx (CC i)) W' (fun i => (i : Int) + 1)) ∧ (∀ i, i < mc CC → W' i = wsv (mc CC) mw i)
/-- Behind the call of compactRules. -/
def AS (w0 : World) (kk av : Bool) (g rg ri n : Nat) (im mw : Bool) (key ks : Int) (d RR : Nat → Nat) (L CC KK : Nat → Int) (SS : Nat → Sd) (w : World) : Prop :=
  (firesB kk av KK = false ∧ MS w0 g rg ri n { data := #[109, 97, 114, 103, 105, 110] } im key d L SS RR CC KK w) ∨ (firesB kk av KK = true ∧ YS w0 rg ri n im mw ks d RR L CC KK w)
theorem AS.tabK {w0 w : World} {kk av : Bool} {g rg ri n : Nat} {im mw : Bool} {key ks : Int} {d RR : Nat → Nat} {L CC KK : Nat → Int} {SS : Nat → Sd} (h : AS w0 kk av g rg ri n im mw key ks d RR L CC KK SS w) : Tab w (ri + 1 + 1) 49 1 4 (fun i _ => .int .i64 (KK i)) := by
  rcases h with ⟨-, h⟩ | ⟨-, h⟩
  · exact h.2.2.2.2.2.2.2.1
  · exact h.2.2.2.2.2.1
set_option maxRecDepth 1000000 in
set_option maxHeartbeats 8000000 in
theorem tail36 (kk mw im av : Bool) (n g rg ri : Nat) (ls idx toks taint ks key : Int) (d RR : Nat → Nat) (L CC KK : Nat → Int) (SS : Nat → Sd) (w0 w : World) (u9 u10 u11 u12 u13 u14 u15 u16 u17 u18 u25 u26 u27 u32 u33 u34 u35 u36 u37 u38 u39 u40 u41 u42 u43 u44 u45 u46 u47 u48 u49 u50 u51 u52 u53 u54 u55 u56 u57 u58 u59 u60 u61 u62 u63 u64 u65 u66 u67 u68 u69 u70 u71 u72 u73 u74 u75 u76 u77 u78 u79 u80 u81 u82 u83 u84 u85 u86 u87 u88 u89 u90 u91 u92 u93 u94 u95 u96 u97 u98 u99 u100 u101 u102 u103 u104 u105 u106 u107 u108 u109 u110 u111 u112 u113 u114 u115 u116 u117 u118 u119 u120 u121 u122 u123 u124 u125 u126 u127 u128 u129 u130 u131 u132 u133 u134 u135 u136 u137 u138 u139 u140 u141 u142 u143 u144 u145 u146 u147 u148 u149 u150 u151 u152 u153 u154 u155 u156 u157 u158 u159 u160 u161 u162 u163 u164 u165 u166 u167 u168 u169 u170 u171 u172 u173 u174 u175 u176 u177 u178 u179 u180 u181 u182 u183 u184 u185 u186 u187 u188 u189 u190 u191 u192 u193 u194 u195 u196 u197 u198 u199 u200 u201 u202 u203 u204 u205 u206 u207 u208 u209 u210 u211 u212 u213 u214 u215 u216 u217 u218 u219 u220 u221 u222 u223 u224 u225 u226 u227 u228 u229 u230 u231 u232 u233 u234 u235 u236 u237 u238 u239 u240 u241 u242 u243 u244 u245 u246 u247 u248 u249 u250 u251 u252 u253 u254 u255 u256 u257 u258 u259 u260 u261 u262 u263 u264 u265 u266 u267 u268 u269 u270 u271 u272 u273 u274 u275 u276 u277 u278 u279 u280 u281 u282 u283 u284 u285 u286 u287 u288 u289 u290 u291 u292 u293 u294 u295 u296 u297 u298 u299 u300 u301 u302 u303 u304 u305 u306 u307 u308 u309 u310 u311 u312 u313 u314 u315 u316 u317 u318 u319 u320 u321 u322 u323 u324 u325 u326 u327 u328 u329 u330 u331 u332 u333 u334 u335 u336 u337 u338 u339 u340 u341 u342 u343 u344 u345 u346 u347 u348 u349 u350 u351 u352 u353 u354 u355 u356 u357 u358 u359 u360 u361 u362 u363 u364 u365 u366 u367 u368 u369 u370 u371 u372 u373 u374 u375 u376 : Value) (hn : n ≤ 4096)
    (h0 : AS w0 kk av g rg ri n im mw key ks d RR L CC KK SS w) (hR : ∀ i, i < 4 → RR i < n) :
    Code.wp Try.prog rest36 (bodyPost Try.prog Try.f3 fun e w' => e = .returned (.bool true) ∧ Below w0.heap.size w0 w') ⟨#[.bool kk, .int .u16 n, .int .i32 ls, .int .u64 idx, .int .u16 toks, .int .u8 taint, .bool mw, .bool im, .int .i32 ks, u9, u10, u11, u12, u13, u14, u15, u16, u17, u18, .int .i64 n, .int .u16 key, .pointer (some ⟨g, 0, none⟩), .slice (some ⟨rg, 0, none⟩) n n, .slice (some ⟨rg + 1, 0, none⟩) n n, .slice (some ⟨rg + 1 + 1, 0, none⟩) n n, u25, u26, u27, .pointer (some ⟨ri, 0, none⟩), .pointer (some ⟨ri + 1, 0, none⟩), .pointer (some ⟨ri + 1 + 1, 0, none⟩), .bool av, u32, u33, u34, u35, u36, u37, u38, u39, u40, u41, u42, u43, u44, u45, u46, u47, u48, u49, u50, u51, u52, u53, u54, u55, u56, u57, u58, u59, u60, u61, u62, u63, u64, u65, u66, u67, u68, u69, u70, u71, u72, u73, u74, u75, u76, u77, u78, u79, u80, u81, u82, u83, u84, u85, u86, u87, u88, u89, u90, u91, u92, u93, u94, u95, u96, u97, u98, u99, u100, u101, u102, u103, u104, u105, u106, u107, u108, u109, u110, u111, u112, u113, u114, u115, u116, u117, u118, u119, u120, u121, u122, u123, u124, u125, u126, u127, u128, u129, u130, u131, u132, u133, u134, u135, u136, u137, u138, u139, u140, u141, u142, u143, u144, u145, u146, u147, u148, u149, u150, u151, u152, u153, u154, u155, u156, u157, u158, u159, u160, u161, u162, u163, u164, u165, u166, u167, u168, u169, u170, u171, u172, u173, u174, u175, u176, u177, u178, u179, u180, u181, u182, u183, u184, u185, u186, u187, u188, u189, u190, u191, u192, u193, u194, u195, u196, u197, u198, u199, u200, u201, u202, u203, u204, u205, u206, u207, u208, u209, u210, u211, u212, u213, u214, u215, u216, u217, u218, u219, u220, u221, u222, u223, u224, u225, u226, u227, u228, u229, u230, u231, u232, u233, u234, u235, u236, u237, u238, u239, u240, u241, u242, u243, u244, u245, u246, u247, u248, u249, u250, u251, u252, u253, u254, u255, u256, u257, u258, u259, u260, u261, u262, u263, u264, u265, u266, u267, u268, u269, u270, u271, u272, u273, u274, u275, u276, u277, u278, u279, u280, u281, u282, u283, u284, u285, u286, u287, u288, u289, u290, u291, u292, u293, u294, u295, u296, u297, u298, u299, u300, u301, u302, u303, u304, u305, u306, u307, u308, u309, u310, u311, u312, u313, u314, u315, u316, u317, u318, u319, u320, u321, u322, u323, u324, u325, u326, u327, u328, u329, u330, u331, u332, u333, u334, u335, u336, u337, u338, u339, u340, u341, u342, u343, u344, u345, u346, u347, u348, u349, u350, u351, u352, u353, u354, u355, u356, u357, u358, u359, u360, u361, u362, u363, u364, u365, u366, u367, u368, u369, u370, u371, u372, u373, u374, u375, u376], []⟩ w := by
  conv => arg 2; whnf
  have H0 := Lib.hid h0
  have HR := Lib.hid hR
  have TK := Lib.hid h0.tabK
  clear h0 hR
  dsimp only
  go_upto_region 36 with fail
  go_cut [36] from 174 to 203 (fun s wx => s = .bool (firesB kk av KK) ∧ wx = w)
  case first =>
    have c0 : w.cell? ⟨ri + 1 + 1, 0, none⟩ = some (.int .i64 (KK 0)) := tcell1 TK.out (i := 0) (by omega)
    have c1 : w.cell? ⟨ri + 1 + 1, 1, none⟩ = some (.int .i64 (KK 1)) := tcell1 TK.out (i := 1) (by omega)
    have c2 : w.cell? ⟨ri + 1 + 1, 2, none⟩ = some (.int .i64 (KK 2)) := tcell1 TK.out (i := 2) (by omega)
    have c3 : w.cell? ⟨ri + 1 + 1, 3, none⟩ = some (.int .i64 (KK 3)) := tcell1 TK.out (i := 3) (by omega)
    have FB := Lib.hid (show firesB kk av KK = (kk && (av && (decide (0 < KK 0) && ((KK 1 == KK 0) && ((KK 2 == KK 0) && (KK 3 == KK 0)))))) from rfl)
    clear H0 HR TK
    cases kk with
    | false =>
      go_wp2_with fail
      go_meet
      exact ⟨by rw [FB.out]; rfl, rfl⟩
    | true =>
      cases av with
      | false =>
        go_wp2_with fail
        go_meet
        exact ⟨by rw [FB.out]; rfl, rfl⟩
      | true =>
        by_cases x0 : 0 < KK 0
        · cases x1 : (KK 1 == KK 0) with
          | false =>
            go_wp2_with fail
            go_meet
            exact ⟨by rw [FB.out, x1]; simp, rfl⟩
          | true =>
            cases x2 : (KK 2 == KK 0) with
            | false =>
              go_wp2_with fail
              go_meet
              exact ⟨by rw [FB.out, x1, x2]; simp, rfl⟩
            | true =>
              cases x3 : (KK 3 == KK 0)
              all_goals
                go_wp2_with fail
                go_meet
                exact ⟨by rw [FB.out, x1, x2, x3]; simp [x0], rfl⟩
        · go_wp2_with fail
          go_meet
          exact ⟨by rw [FB.out, decide_eq_false (show ¬ 0 < KK 0 by omega)]; rfl, rfl⟩
  case rest =>
    obtain ⟨rfl, rfl⟩ := hcut
    refine tailApply (by assumption) ?_
    rcases H0.out with ⟨hf, h⟩ | ⟨hf, h⟩
    · rw [hf]
      obtain ⟨m0, m1, m2, m3, m4, m5⟩ := h
      exact tail37_no kk mw im av n g rg ri ls idx toks taint ks key d L w0 _ _ _ _ _ _ _ _ _ _ _ _ _ _ _ _ _ _ _ _ _ _ _ _ _ _ _ _ _ _ _ _ _ _ _ _ _ _ _ _ _ _ _ _ _ _ _ _ _ _ _ _ _ _ _ _ _ _ _ _ _ _ _ _ _ _ _ _ _ _ _ _ _ _ _ _ _ _ _ _ _ _ _ _ _ _ _ _ _ _ _ _ _ _ _ _ _ _ _ _ _ _ _ _ _ _ _ _ _ _ _ _ _ _ _ _ _ _ _ _ _ _ _ _ _ _ _ _ _ _ _ _ _ _ _ _ _ _ _ _ _ _ _ _ _ _ _ _ _ _ _ _ _ _ _ _ _ _ _ _ _ _ _ _ _ _ _ _ _ _ _ _ _ _ _ _ _ _ _ _ _ _ _ _ _ _ _ _ _ _ _ _ _ _ _ _ _ _ _ _ _ _ _ _ _ _ _ _ _ _ _ _ _ _ _ _ _ _ _ _ _ _ _ _ _ _ _ _ _ _ _ _ _ _ _ _ _ _ _ _ _ _ _ _ _ _ _ _ _ _ _ _ _ _ _ _ _ _ _ _ _ _ _ _ _ _ _ _ _ _ _ _ _ _ _ _ _ _ _ _ _ _ _ _ _ _ _ _ _ _ _ _ _ _ _ _ _ _ _ _ _ _ _ _ _ _ _ _ _ _ _ _ _ _ _ _ _ _ _ _ _ _ _ _ _ _ _ _ _ _ _ _ _ _ _ _ _ _ _ _ _ _ _ _ _ _ _ _ _ _ _ _ _ _ _ _ _ _ hn m0 m2 m3 m4
    · rw [hf]
      obtain ⟨y0, y1, y2, y3, y4, y5, dd, tg, W', y6, y7, y8, y9⟩ := h
      exact tail37_yes kk mw im av n g rg ri dd tg _ ls idx toks taint ks key d RR L CC W' w0 _ _ _ _ _ _ _ _ _ _ _ _ _ _ _ _ _ _ _ _ _ _ _ _ _ _ _ _ _ _ _ _ _ _ _ _ _ _ _ _ _ _ _ _ _ _ _ _ _ _ _ _ _ _ _ _ _ _ _ _ _ _ _ _ _ _ _ _ _ _ _ _ _ _ _ _ _ _ _ _ _ _ _ _ _ _ _ _ _ _ _ _ _ _ _ _ _ _ _ _ _ _ _ _ _ _ _ _ _ _ _ _ _ _ _ _ _ _ _ _ _ _ _ _ _ _ _ _ _ _ _ _ _ _ _ _ _ _ _ _ _ _ _ _ _ _ _ _ _ _ _ _ _ _ _ _ _ _ _ _ _ _ _ _ _ _ _ _ _ _ _ _ _ _ _ _ _ _ _ _ _ _ _ _ _ _ _ _ _ _ _ _ _ _ _ _ _ _ _ _ _ _ _ _ _ _ _ _ _ _ _ _ _ _ _ _ _ _ _ _ _ _ _ _ _ _ _ _ _ _ _ _ _ _ _ _ _ _ _ _ _ _ _ _ _ _ _ _ _ _ _ _ _ _ _ _ _ _ _ _ _ _ _ _ _ _ _ _ _ _ _ _ _ _ _ _ _ _ _ _ _ _ _ _ _ _ _ _ _ _ _ _ _ _ _ _ _ _ _ _ _ _ _ _ _ _ _ _ _ _ _ _ _ _ _ _ _ _ _ _ _ _ _ _ _ _ _ _ _ _ _ _ _ _ _ _ _ _ _ _ _ _ _ _ _ _ _ _ _ _ _ _ _ _ _ _ _ _ hn y0 y6 y1 y2 y3 y4 y7 y8 y9 rfl HR.out
end Go.Proofs.Ytioilpdjfplffaa.ZT
