/- Law 3: the code behind compactRules, taken out of the translation. Written by gen_boxj.py. -/
import Derived.Test.YtioilpdjfplffaaRh
namespace Go.Proofs.Ytioilpdjfplffaa.ZT
open Go.RowKit Go.Proofs.Ytioilpdjfplffaa.TB
set_option linter.unusedVariables false
set_option linter.unusedSimpArgs false
def startsR (n : Nat) : Code → Bool
  | .region k _ _ => k == n
  | .seq a _ => startsR n a
  | _ => false
def fromR (n : Nat) : Code → Option Code
  | .seq a b => if startsR n a then some (.seq a b) else match fromR n a with
    | some c => some c
    | none => fromR n b
  | .block _ c => fromR n c
  | .loop c => fromR n c
  | .scope c => fromR n c
  | .cond _ a b => match fromR n a with
    | some c => some c
    | none => fromR n b
  | _ => none
def endsR (n : Nat) : Code → Bool
  | .region k _ _ => k == n
  | .seq _ b => endsR n b
  | _ => false
/-- What follows the region n. -/
def fromAfter (n : Nat) : Code → Option Code
  | .seq a b => if endsR n a then some b else match fromAfter n a with
    | some c => some c
    | none => fromAfter n b
  | .block _ c => fromAfter n c
  | .loop c => fromAfter n c
  | .scope c => fromAfter n c
  | .cond _ a b => match fromAfter n a with
    | some c => some c
    | none => fromAfter n b
  | _ => none
noncomputable def rest37 : Code := (Try.f3.body.bind (fromR 37)).getD .skip
theorem tailApply {P : Program} {C : Code} {Q : Exit → Act → World → Prop} {K : Act → World → Prop} {a : Act} {w : World} (h : ∀ a w, Code.wp P C Q a w → K a w) (h2 : Code.wp P C Q a w) : K a w := h a w h2
set_option maxRecDepth 1000000 in
set_option maxHeartbeats 8000000 in
theorem tail37_no (kk mw im av : Bool) (n g rg ri : Nat) (ls idx toks taint ks key : Int) (d : Nat → Nat) (L : Nat → Int) (w0 w : World) (u9 u10 u11 u12 u13 u14 u15 u16 u17 u18 u25 u26 u27 u32 u33 u34 u35 u37 u38 u39 u40 u41 u42 u43 u44 u45 u46 u47 u48 u49 u50 u51 u52 u53 u54 u55 u56 u57 u58 u59 u60 u61 u62 u63 u64 u65 u66 u67 u68 u69 u70 u71 u72 u73 u74 u75 u76 u77 u78 u79 u80 u81 u82 u83 u84 u85 u86 u87 u88 u89 u90 u91 u92 u93 u94 u95 u96 u97 u98 u99 u100 u101 u102 u103 u104 u105 u106 u107 u108 u109 u110 u111 u112 u113 u114 u115 u116 u117 u118 u119 u120 u121 u122 u123 u124 u125 u126 u127 u128 u129 u130 u131 u132 u133 u134 u135 u136 u137 u138 u139 u140 u141 u142 u143 u144 u145 u146 u147 u148 u149 u150 u151 u152 u153 u154 u155 u156 u157 u158 u159 u160 u161 u162 u163 u164 u165 u166 u167 u168 u169 u170 u171 u172 u173 u174 u175 u176 u177 u178 u179 u180 u181 u182 u183 u184 u185 u186 u187 u188 u189 u190 u191 u192 u193 u194 u195 u196 u197 u198 u199 u200 u201 u202 u203 u204 u205 u206 u207 u208 u209 u210 u211 u212 u213 u214 u215 u216 u217 u218 u219 u220 u221 u222 u223 u224 u225 u226 u227 u228 u229 u230 u231 u232 u233 u234 u235 u236 u237 u238 u239 u240 u241 u242 u243 u244 u245 u246 u247 u248 u249 u250 u251 u252 u253 u254 u255 u256 u257 u258 u259 u260 u261 u262 u263 u264 u265 u266 u267 u268 u269 u270 u271 u272 u273 u274 u275 u276 u277 u278 u279 u280 u281 u282 u283 u284 u285 u286 u287 u288 u289 u290 u291 u292 u293 u294 u295 u296 u297 u298 u299 u300 u301 u302 u303 u304 u305 u306 u307 u308 u309 u310 u311 u312 u313 u314 u315 u316 u317 u318 u319 u320 u321 u322 u323 u324 u325 u326 u327 u328 u329 u330 u331 u332 u333 u334 u335 u336 u337 u338 u339 u340 u341 u342 u343 u344 u345 u346 u347 u348 u349 u350 u351 u352 u353 u354 u355 u356 u357 u358 u359 u360 u361 u362 u363 u364 u365 u366 u367 u368 u369 u370 u371 u372 u373 u374 u375 u376 : Value) (hn : n ≤ 4096)
    (h0 : Below w0.heap.size w0 w) (h1 : Tab w rg 48 2 n (rc (fun i => some (d i)) L)) (h2 : Tab w (rg + 1) 30 1 n (fun i _ => .pointer (some ⟨d i, 0, none⟩))) (h3 : Tab w (rg + 1 + 1) 21 1 n (fun i _ => .int .i32 (L i))) :
    Code.wp Try.prog rest37 (bodyPost Try.prog Try.f3 fun e w' => e = .returned (.bool true) ∧ Below w0.heap.size w0 w') ⟨#[.bool kk, .int .u16 n, .int .i32 ls, .int .u64 idx, .int .u16 toks, .int .u8 taint, .bool mw, .bool im, .int .i32 ks, u9, u10, u11, u12, u13, u14, u15, u16, u17, u18, .int .i64 n, .int .u16 key, .pointer (some ⟨g, 0, none⟩), .slice (some ⟨rg, 0, none⟩) n n, .slice (some ⟨rg + 1, 0, none⟩) n n, .slice (some ⟨rg + 1 + 1, 0, none⟩) n n, u25, u26, u27, .pointer (some ⟨ri, 0, none⟩), .pointer (some ⟨ri + 1, 0, none⟩), .pointer (some ⟨ri + 1 + 1, 0, none⟩), .bool av, u32, u33, u34, u35, .bool false, u37, u38, u39, u40, u41, u42, u43, u44, u45, u46, u47, u48, u49, u50, u51, u52, u53, u54, u55, u56, u57, u58, u59, u60, u61, u62, u63, u64, u65, u66, u67, u68, u69, u70, u71, u72, u73, u74, u75, u76, u77, u78, u79, u80, u81, u82, u83, u84, u85, u86, u87, u88, u89, u90, u91, u92, u93, u94, u95, u96, u97, u98, u99, u100, u101, u102, u103, u104, u105, u106, u107, u108, u109, u110, u111, u112, u113, u114, u115, u116, u117, u118, u119, u120, u121, u122, u123, u124, u125, u126, u127, u128, u129, u130, u131, u132, u133, u134, u135, u136, u137, u138, u139, u140, u141, u142, u143, u144, u145, u146, u147, u148, u149, u150, u151, u152, u153, u154, u155, u156, u157, u158, u159, u160, u161, u162, u163, u164, u165, u166, u167, u168, u169, u170, u171, u172, u173, u174, u175, u176, u177, u178, u179, u180, u181, u182, u183, u184, u185, u186, u187, u188, u189, u190, u191, u192, u193, u194, u195, u196, u197, u198, u199, u200, u201, u202, u203, u204, u205, u206, u207, u208, u209, u210, u211, u212, u213, u214, u215, u216, u217, u218, u219, u220, u221, u222, u223, u224, u225, u226, u227, u228, u229, u230, u231, u232, u233, u234, u235, u236, u237, u238, u239, u240, u241, u242, u243, u244, u245, u246, u247, u248, u249, u250, u251, u252, u253, u254, u255, u256, u257, u258, u259, u260, u261, u262, u263, u264, u265, u266, u267, u268, u269, u270, u271, u272, u273, u274, u275, u276, u277, u278, u279, u280, u281, u282, u283, u284, u285, u286, u287, u288, u289, u290, u291, u292, u293, u294, u295, u296, u297, u298, u299, u300, u301, u302, u303, u304, u305, u306, u307, u308, u309, u310, u311, u312, u313, u314, u315, u316, u317, u318, u319, u320, u321, u322, u323, u324, u325, u326, u327, u328, u329, u330, u331, u332, u333, u334, u335, u336, u337, u338, u339, u340, u341, u342, u343, u344, u345, u346, u347, u348, u349, u350, u351, u352, u353, u354, u355, u356, u357, u358, u359, u360, u361, u362, u363, u364, u365, u366, u367, u368, u369, u370, u371, u372, u373, u374, u375, u376], []⟩ w := by
  conv => arg 2; whnf
  have H0 := Lib.hid h0
  have H1 := Lib.hid h1
  have H2 := Lib.hid h2
  have H3 := Lib.hid h3
  clear h0 h1 h2 h3
  go_wp2_with fail
  refine (unch11 rg (rg + 1) (rg + 1 + 1) n n n n d L _ hn H1.out H2.out H3.out).mono ?_
  rintro e w1 ⟨rfl, hb1⟩
  have B1 := Lib.hid (H0.out.trans (hb1.mono H0.out.size))
  clear hb1
  go_wp2_with fail
  go_ret
  exact ⟨rfl, B1.out⟩
end Go.Proofs.Ytioilpdjfplffaa.ZT
