/- Law 3: the sides are drawn, and compactRules is called. Written by gen_boxo.py. -/
import Derived.Test.YtioilpdjfplffaaRn
namespace Go.Proofs.Ytioilpdjfplffaa.ZT
open Go.RowKit Go.Proofs.Ytioilpdjfplffaa.TB
set_option linter.unusedVariables false
set_option linter.unusedSimpArgs false
noncomputable def rest23 : Code := (Try.f3.body.bind (fromAfter 22)).getD .skip
theorem cm_congr {K K' : Nat → Int} {T T' : Nat → ByteArray} (hK : ∀ i, i < 4 → K i = K' i) (hT : ∀ i, i < 4 → T i = T' i) : cm K T = cm K' T' := by
  unfold cm
  rw [hK 0 (by omega), hK 1 (by omega), hK 2 (by omega), hK 3 (by omega), hT 0 (by omega), hT 1 (by omega), hT 2 (by omega), hT 3 (by omega)]
theorem TR.ext {w : World} {A : Option Addr} {n : Nat} {f f' : Nat → Nat → Value} (h : TR w A n f) (e : ∀ i j, i < n → j < 7 → f i j = f' i j) : TR w A n f' := by
  intro hn
  obtain ⟨b, o, e1, hl, hc⟩ := h hn
  exact ⟨b, o, e1, hl, fun i j hi hj => by rw [hc i j hi hj, e i j hi hj]⟩
theorem comp_ys {w0 w w' : World} {kk av : Bool} {g rg ri n : Nat} {im mw : Bool} {key ks : Int} {d RR : Nat → Nat} {L CC KK : Nat → Int} {SS : Nat → Sd} (hP : PR n 4 SS RR CC KK av) (hf : firesB kk av KK = true) (hM : MS w0 g rg ri n { data := #[109, 97, 114, 103, 105, 110] } im key d L SS RR CC KK w) (hkey : key = if kk = true then 189 else 0) {e : Ending}
    (h : Comp18 rg n { data := #[109, 97, 114, 103, 105, 110] } SS im key ks 0 mw (fun i => some (d i)) L RR w e w') : e = .returned (.tuple #[]) ∧ YS w0 rg ri n im mw ks d RR L CC KK w' := by
  obtain ⟨hk, full⟩ := fires_full hP hf
  obtain ⟨e1, dd, tg, W', c1, c2, c3, c4, c5, c6⟩ := h
  obtain ⟨h0, h1, h2, h3, h4, h5, h6, h7, h8, h9, h10⟩ := hM
  have e0 : key = 189 := by rw [hkey, hk]; rfl
  have eK : ∀ i, i < 4 → (SS i).k = kd (CC i) := fun i hi => by rw [(full i hi).2.2.2]
  have eT : ∀ i, i < 4 → (SS i).t = tx (CC i) := fun i hi => by rw [(full i hi).2.2.2]
  have eL : ∀ i, i < 4 → (SS i).l = (i : Int) + 1 := fun i hi => by rw [(full i hi).2.2.2]
  have em : cm (fun i => (SS i).k) (fun i => (SS i).t) = mc CC := by
    rw [cm_congr (K' := fun i => kd (CC i)) (T' := fun i => tx (CC i)) eK eT]
    exact cm_mc CC (fun i hi => ⟨(full i hi).1, (full i hi).2.1⟩)
  rw [em] at c2 c3 c4
  rw [e0] at c2
  have hm := (mc_le CC).2
  refine ⟨e1, h0.trans (c5.below h0.size (by omega)), c5.tab h3 h3.lt (by omega), c5.tab h4 h4.lt (by omega), c5.tab h5 h5.lt (by omega), c5.tab h6 h6.lt (by omega), c5.tab h7 h7.lt (by omega), dd, tg, W', c1, c2, TR.ext c3 (fun i j hi hj => ?_), c4⟩
  unfold tc
  simp only
  rw [eK i (by omega), eT i (by omega), eL i (by omega)]
set_option maxRecDepth 1000000 in
set_option maxHeartbeats 8000000 in
theorem tail23 (kk mw im : Bool) (n g rg ri : Nat) (ls idx toks taint ks key : Int) (d : Nat → Nat) (L : Nat → Int) (w0 w : World) (u9 u10 u11 u12 u13 u14 u15 u16 u17 u18 u25 u26 u27 u32 u33 u34 u35 u36 u37 u38 u39 u40 u41 u42 u43 u44 u45 u46 u47 u48 u49 u50 u51 u52 u53 u54 u55 u56 u57 u58 u59 u60 u61 u62 u63 u64 u65 u66 u67 u68 u69 u70 u71 u72 u73 u74 u75 u76 u77 u78 u79 u80 u81 u82 u83 u84 u85 u86 u87 u88 u89 u90 u91 u92 u93 u94 u95 u96 u97 u98 u99 u100 u101 u102 u103 u104 u105 u106 u107 u108 u109 u110 u111 u112 u113 u114 u115 u116 u117 u118 u119 u120 u121 u122 u123 u124 u125 u126 u127 u128 u129 u130 u131 u132 u133 u134 u135 u136 u137 u138 u139 u140 u141 u142 u143 u144 u145 u146 u147 u148 u149 u150 u151 u152 u153 u154 u155 u156 u157 u158 u159 u160 u161 u162 u163 u164 u165 u166 u167 u168 u169 u170 u171 u172 u173 u174 u175 u176 u177 u178 u179 u180 u181 u182 u183 u184 u185 u186 u187 u188 u189 u190 u191 u192 u193 u194 u195 u196 u197 u198 u199 u200 u201 u202 u203 u204 u205 u206 u207 u208 u209 u210 u211 u212 u213 u214 u215 u216 u217 u218 u219 u220 u221 u222 u223 u224 u225 u226 u227 u228 u229 u230 u231 u232 u233 u234 u235 u236 u237 u238 u239 u240 u241 u242 u243 u244 u245 u246 u247 u248 u249 u250 u251 u252 u253 u254 u255 u256 u257 u258 u259 u260 u261 u262 u263 u264 u265 u266 u267 u268 u269 u270 u271 u272 u273 u274 u275 u276 u277 u278 u279 u280 u281 u282 u283 u284 u285 u286 u287 u288 u289 u290 u291 u292 u293 u294 u295 u296 u297 u298 u299 u300 u301 u302 u303 u304 u305 u306 u307 u308 u309 u310 u311 u312 u313 u314 u315 u316 u317 u318 u319 u320 u321 u322 u323 u324 u325 u326 u327 u328 u329 u330 u331 u332 u333 u334 u335 u336 u337 u338 u339 u340 u341 u342 u343 u344 u345 u346 u347 u348 u349 u350 u351 u352 u353 u354 u355 u356 u357 u358 u359 u360 u361 u362 u363 u364 u365 u366 u367 u368 u369 u370 u371 u372 u373 u374 u375 u376 : Value) (h0 : ¬ n = 0) (h1 : ¬ 4096 < n) (hkey' : key = if kk = true then 189 else 0)
    (hm : MS w0 g rg ri n { data := #[109, 97, 114, 103, 105, 110] } im key d L (fun _ => Sd0) (fun _ => 0) (fun _ => 0) (fun _ => 0) w) :
    Code.wp Try.prog rest23 (bodyPost Try.prog Try.f3 fun e w' => e = .returned (.bool true) ∧ Below w0.heap.size w0 w') ⟨#[.bool kk, .int .u16 n, .int .i32 ls, .int .u64 idx, .int .u16 toks, .int .u8 taint, .bool mw, .bool im, .int .i32 ks, u9, u10, u11, u12, u13, u14, u15, u16, u17, u18, .int .i64 n, .int .u16 key, .pointer (some ⟨g, 0, none⟩), .slice (some ⟨rg, 0, none⟩) n n, .slice (some ⟨rg + 1, 0, none⟩) n n, .slice (some ⟨rg + 1 + 1, 0, none⟩) n n, u25, u26, u27, .pointer (some ⟨ri, 0, none⟩), .pointer (some ⟨ri + 1, 0, none⟩), .pointer (some ⟨ri + 1 + 1, 0, none⟩), .bool true, u32, u33, u34, u35, u36, u37, u38, u39, u40, u41, u42, u43, u44, u45, u46, u47, u48, u49, u50, u51, u52, u53, u54, u55, u56, u57, u58, u59, u60, u61, u62, u63, u64, u65, u66, u67, u68, u69, u70, u71, u72, u73, u74, u75, u76, u77, u78, u79, u80, u81, u82, u83, u84, u85, u86, u87, u88, u89, u90, u91, u92, u93, u94, u95, u96, u97, u98, u99, u100, u101, u102, u103, u104, u105, u106, u107, u108, u109, u110, u111, u112, u113, u114, u115, u116, u117, u118, u119, u120, u121, u122, u123, u124, u125, u126, u127, u128, u129, u130, u131, u132, u133, u134, u135, u136, u137, u138, u139, u140, u141, u142, u143, u144, u145, u146, u147, u148, u149, u150, u151, u152, u153, u154, u155, u156, u157, u158, u159, u160, u161, u162, u163, u164, u165, u166, u167, u168, u169, u170, u171, u172, u173, u174, u175, u176, u177, u178, u179, u180, u181, u182, u183, u184, u185, u186, u187, u188, u189, u190, u191, u192, u193, u194, u195, u196, u197, u198, u199, u200, u201, u202, u203, u204, u205, u206, u207, u208, u209, u210, u211, u212, u213, u214, u215, u216, u217, u218, u219, u220, u221, u222, u223, u224, u225, u226, u227, u228, u229, u230, u231, u232, u233, u234, u235, u236, u237, u238, u239, u240, u241, u242, u243, u244, u245, u246, u247, u248, u249, u250, u251, u252, u253, u254, u255, u256, u257, u258, u259, u260, u261, u262, u263, u264, u265, u266, u267, u268, u269, u270, u271, u272, u273, u274, u275, u276, u277, u278, u279, u280, u281, u282, u283, u284, u285, u286, u287, u288, u289, u290, u291, u292, u293, u294, u295, u296, u297, u298, u299, u300, u301, u302, u303, u304, u305, u306, u307, u308, u309, u310, u311, u312, u313, u314, u315, u316, u317, u318, u319, u320, u321, u322, u323, u324, u325, u326, u327, u328, u329, u330, u331, u332, u333, u334, u335, u336, u337, u338, u339, u340, u341, u342, u343, u344, u345, u346, u347, u348, u349, u350, u351, u352, u353, u354, u355, u356, u357, u358, u359, u360, u361, u362, u363, u364, u365, u366, u367, u368, u369, u370, u371, u372, u373, u374, u375, u376], []⟩ w := by
  conv => arg 2; whnf
  have M0 := Lib.hid hm
  have hkey := Lib.hid hkey'
  clear hm hkey'
  go_wp2_with fail
  go_loopw [31, 32, 33, 34, 35] (fun ax i _ _ _ wr => ∃ (s : Nat) (av : Bool) (SS : Nat → Sd) (RR : Nat → Nat) (CC KK : Nat → Int), s ≤ 4 ∧ i = .int .i64 s ∧ ax = .bool av ∧ Hid (PR n s SS RR CC KK av) ∧ Hid (MS w0 g rg ri n { data := #[109, 97, 114, 103, 105, 110] } im key d L SS RR CC KK wr)) (fun _ i _ _ _ _ => 4 - (intOf i).toNat)
  case atStart => exact ⟨0, true, _, _, _, _, by omega, rfl, rfl, Lib.hid (PR.zero _ _ _ _ _), M0⟩
  case round =>
    obtain ⟨s, av, SS, RR, CC, KK, hs, rfl, rfl, PJ, MJ⟩ := hrel
    clear M0
    by_cases hs4 : s < 4
    · have q1 : (0 : Int) ≤ (s : Int) := by omega
      have q2 : (s : Int) < 4 := by omega
      have o0 : wr.cell? ⟨ri, s, none⟩ = some (.int .i64 (RR s : Nat)) := tcell1 MJ.out.2.2.2.2.2.1 hs4
      have o1 : wr.frozen? ⟨ri, s, none⟩ = false := MJ.out.2.2.2.2.2.1.frozen _
      go_upto_region 27 with fail
      obtain ⟨r, hr, hrn⟩ := rix (bits .and .u64 (idx / 2 ^ (16 * s)) 65535) n (by omega) (by omega)
      rw [hr]
      clear hr o0 o1
      have MR := Lib.hid (MJ.out.putR hs4 r)
      clear MJ
      generalize wr.setCell ⟨ri, s, none⟩ (.int .i64 r) = Wa at *
      go_upto_region 28 with fail
      generalize hcx : bits .and .u16 (toks / 2 ^ (4 * s)) 15 % 256 % 8 = c at *
      have hc1 : 0 ≤ c := by omega
      have hc2 : c < 8 := by omega
      clear hcx
      by_cases hc0 : c = 0
      · subst hc0
        go_wp2_with fail
        refine (setSide7 g s Sd0 { data := #[109, 97, 114, 103, 105, 110] } SS true im key _ hs4 MR.out.2.1).mono ?_
        rintro e w6 ⟨rfl, hx, hk⟩
        have M6 := Lib.hid (MR.out.side hk hx)
        clear hx hk MR
        go_wp2_with fail
        go_roundw
        case rel => exact ⟨s + 1, false, _, _, _, _, by omega, by go_num, rfl, Lib.hid (PJ.out.no hrn rfl), M6⟩
        case measure => simp [intOf]; omega
      · have e1 : (c - 1) % 256 = c - 1 := by omega
        have c0 : Wa.cell? ⟨ri + 1, s, none⟩ = some (.int .u8 (CC s)) := tcell1 MR.out.2.2.2.2.2.2.1 hs4
        have c1 : Wa.frozen? ⟨ri + 1, s, none⟩ = false := MR.out.2.2.2.2.2.2.1.frozen _
        go_upto_region 32 with fail
        clear c0 c1
        have MC := Lib.hid (MR.out.putC hs4 (c - 1))
        clear MR
        generalize Wa.setCell ⟨ri + 1, s, none⟩ (.int .u8 (c - 1)) = Wb at *
        go_wp2_with fail
        refine (class8x _ _ _).mono ?_
        rintro e w7 ⟨kl, hkl, rfl, hb7⟩
        have HKL := Lib.hid hkl
        have M7 := Lib.hid (MC.out.step hb7)
        clear hb7 MC hkl
        have k0 : w7.cell? ⟨ri + 1 + 1, s, none⟩ = some (.int .i64 (KK s)) := tcell1 M7.out.2.2.2.2.2.2.2.1 hs4
        have k1 : w7.frozen? ⟨ri + 1 + 1, s, none⟩ = false := M7.out.2.2.2.2.2.2.2.1.frozen _
        go_upto_region 33 with fail
        clear k0 k1
        have MK := Lib.hid (M7.out.putK hs4 kl)
        clear M7
        generalize w7.setCell ⟨ri + 1 + 1, s, none⟩ (.int .i64 kl) = Wc at *
        have k2 : Wc.cell? ⟨ri + 1 + 1, s, none⟩ = some (.int .i64 kl) := by
          have := tcell1 MK.out.2.2.2.2.2.2.2.1 hs4
          simpa using this
        go_wp2_with fail
        refine (safety9 kl _).mono ?_
        rintro e w8 ⟨rfl, hb8⟩
        have M8 := Lib.hid ((MK.out.step hb8).step (Below.refl _ _).drew)
        clear hb8 MK k2
        go_upto_region 34 with fail
        have w1' := Lib.hid (wraps_u8 (c - 1) (by omega) (by omega))
        have w2' := Lib.hid (wraps_i32 (s : Int) (by omega) (by omega))
        have w3' := Lib.hid (wraps_i32 ((s : Int) + 1) (by omega) (by omega))
        have w4' := Lib.hid (show IntKind.u32.wrap ((r : Nat) : Int) = (r : Nat) by rw [IntKind.wrap_u32]; omega)
        have HR := Lib.hid (fun (W : World) (SX : Nat → Sd) (h : MS w0 g rg ri n { data := #[109, 97, 114, 103, 105, 110] } im key d L SX (fun i => if i = s then r else RR i) (fun i => if i = s then c - 1 else CC i) (fun i => if i = s then kl else KK i) W) => show W.cell? ⟨ri, s, none⟩ = some (.int .i64 (r : Nat)) from by
          have := tcell1 h.2.2.2.2.2.1 hs4
          simpa using this)
        have START := Lib.hid (HR.out _ _ M8.out)
        go_region_held3 (fun w' => w'.cell? ⟨ri, s, none⟩ = some (.int .i64 (r : Nat)))
          (first | assumption | exact START.out)
          (first
            | (go_at_call 6; rw [w1'.out, w2'.out, w3'.out]; refine (tok6 _ _ _).mono ?_; rintro e_ w9 ⟨rfl, hb9⟩; have M9 := Lib.hid (M8.out.step hb9); have hI := HR.out _ _ M9.out; clear hb9)
            | (go_at_call 7; rw [w4'.out]; refine (setSide7 g s ⟨tx (c - 1), (s : Int) + 1, kd (c - 1), 0, sun kl, sst kl, r, true⟩ { data := #[109, 97, 114, 103, 105, 110] } SS true im key _ hs4 M9.out.2.1).mono ?_; rintro e_ w10 ⟨rfl, hx, hk⟩; have M10 := Lib.hid (M9.out.side hk hx); have hI2 := HR.out _ _ M10.out; clear hx hk))
        go_wp2_with fail
        go_roundw
        case rel => exact ⟨s + 1, av, _, _, _, _, by omega, by go_num, rfl, Lib.hid (PJ.out.yes hrn ⟨by omega, by omega, HKL.out, rfl⟩), M10⟩
        case measure => simp [intOf]; omega
    · obtain rfl : s = 4 := by omega
      go_upto_region 35 with fail
      go_cut [173] from 167 to 173 (fun s_ wx => Hid (AS w0 kk av g rg ri n im mw key ks d RR L CC KK SS wx))
      case first =>
        cases hf : firesB kk av KK with
        | false =>
          have HF := Lib.hid hf
          have hf2 := fires_eq PJ.out hkey.out
          rw [hf] at hf2
          clear hf
          have CT := Lib.hid (wrap10_no g rg n n { data := #[109, 97, 114, 103, 105, 110] } SS true im key ks 0 mw wr MJ.out.2.1 hf2)
          clear hf2
          go_wp2_with fail
          refine CT.out.mono ?_
          rintro e w9 ⟨rfl, hb9⟩
          have M9 := Lib.hid (MJ.out.step hb9)
          clear hb9
          go_wp2_with fail
          go_meet
          exact Lib.hid (.inl ⟨HF.out, M9.out⟩)
        | true =>
          have HF := Lib.hid hf
          have hf2 := fires_eq PJ.out hkey.out
          rw [hf] at hf2
          have full := (fires_full PJ.out hf).2
          have hrr : ∀ s, s < 4 → (SS s).r = (RR s : Int) := fun i hi => by rw [(full i hi).2.2.2]
          have CT := Lib.hid (wrap10_yes g rg n n { data := #[109, 97, 114, 103, 105, 110] } SS true im key ks 0 mw (fun i => some (d i)) L wr hf2 MJ.out.2.1 MJ.out.2.2.1 (by have := MJ.out.2.2.2.2.2.2.2.2.2.1; omega) RR hrr (fun i hi => (PJ.out.1 i hi).1))
          clear hf2 full hrr hf
          go_wp2_with fail
          refine CT.out.mono ?_
          intro e w9 hc
          obtain ⟨rfl, hy⟩ := comp_ys PJ.out HF.out MJ.out hkey.out hc
          have HY := Lib.hid hy
          clear hc hy
          go_wp2_with fail
          go_meet
          exact Lib.hid (.inr ⟨HF.out, HY.out⟩)
      case rest =>
        refine tailApply (by assumption) ?_
        exact tail36 kk mw im av n g rg ri ls idx toks taint ks key d RR L CC KK SS w0 _ _ _ _ _ _ _ _ _ _ _ _ _ _ _ _ _ _ _ _ _ _ _ _ _ _ _ _ _ _ _ _ _ _ _ _ _ _ _ _ _ _ _ _ _ _ _ _ _ _ _ _ _ _ _ _ _ _ _ _ _ _ _ _ _ _ _ _ _ _ _ _ _ _ _ _ _ _ _ _ _ _ _ _ _ _ _ _ _ _ _ _ _ _ _ _ _ _ _ _ _ _ _ _ _ _ _ _ _ _ _ _ _ _ _ _ _ _ _ _ _ _ _ _ _ _ _ _ _ _ _ _ _ _ _ _ _ _ _ _ _ _ _ _ _ _ _ _ _ _ _ _ _ _ _ _ _ _ _ _ _ _ _ _ _ _ _ _ _ _ _ _ _ _ _ _ _ _ _ _ _ _ _ _ _ _ _ _ _ _ _ _ _ _ _ _ _ _ _ _ _ _ _ _ _ _ _ _ _ _ _ _ _ _ _ _ _ _ _ _ _ _ _ _ _ _ _ _ _ _ _ _ _ _ _ _ _ _ _ _ _ _ _ _ _ _ _ _ _ _ _ _ _ _ _ _ _ _ _ _ _ _ _ _ _ _ _ _ _ _ _ _ _ _ _ _ _ _ _ _ _ _ _ _ _ _ _ _ _ _ _ _ _ _ _ _ _ _ _ _ _ _ _ _ _ _ _ _ _ _ _ _ _ _ _ _ _ _ _ _ _ _ _ _ _ _ _ _ _ _ _ _ _ _ _ _ _ _ _ _ _ _ _ _ _ _ _ _ _ _ _ _ _ _ _ _ _ _ _ (by omega) hcut.out (fun i hi => (PJ.out.1 i hi).1)
end Go.Proofs.Ytioilpdjfplffaa.ZT
