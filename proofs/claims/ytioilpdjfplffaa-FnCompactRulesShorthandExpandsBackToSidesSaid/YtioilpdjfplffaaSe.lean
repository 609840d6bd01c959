/- Law 4: the sides are set, and compactRules is called. Written by gen_boxse.py. -/
import Derived.Test.YtioilpdjfplffaaSd
import Derived.Test.YtioilpdjfplffaaRo
namespace Go.Proofs.Ytioilpdjfplffaa.ZT
open Go.RowKit Go.Proofs.Ytioilpdjfplffaa.TB
set_option linter.unusedVariables false
set_option linter.unusedSimpArgs false
noncomputable def sest10 : Code := (Try.f4.body.bind (fromAfter 9)).getD .skip
/-- While the sides are set. -/
def NS (w0 : World) (pb g rg cb : Nat) (kt : ByteArray) (im : Bool) (key : Int) (d : Nat → Nat) (L : Nat → Int) (P : Nat → Nat) (SS : Nat → Sd) (CC : Nat → Int) (wr : World) : Prop :=
  Below w0.heap.size w0 wr ∧ Box wr g kt SS true im key ∧ Tab wr rg 48 2 4 (rc (fun i => some (d i)) L) ∧ Tab wr pb 49 1 4 (fun i _ => .int .i64 (P i : Nat)) ∧ Tab wr cb 50 1 4 (fun i _ => .int .u8 (CC i)) ∧ w0.heap.size ≤ pb ∧ pb < g ∧ g < rg ∧ rg < cb
section
variable {w0 : World} {pb g rg cb : Nat} {kt : ByteArray} {im : Bool} {key : Int} {d : Nat → Nat} {L : Nat → Int} {P : Nat → Nat} {SS : Nat → Sd} {CC : Nat → Int} {wr : World}
theorem NS.step (h : NS w0 pb g rg cb kt im key d L P SS CC wr) {w' : World} (hb : Below wr.heap.size wr w') : NS w0 pb g rg cb kt im key d L P SS CC w' := by
  obtain ⟨h0, h1, h2, h3, h4, h5⟩ := h
  exact ⟨h0.trans (hb.mono h0.size), Blk.below h1 hb h1.lt, h2.below hb h2.lt, h3.below hb h3.lt, h4.below hb h4.lt, h5⟩
theorem NS.side (h : NS w0 pb g rg cb kt im key d L P SS CC wr) {w' : World} {SS' : Nat → Sd} (hb : Kept wr.heap.size g wr w') (hx : Box w' g kt SS' true im key) : NS w0 pb g rg cb kt im key d L P SS' CC w' := by
  obtain ⟨h0, h1, h2, h3, h4, h5, h6, h7, h8⟩ := h
  exact ⟨h0.trans (hb.below h0.size (by omega)), hx, hb.tab h2 h2.lt (by omega), hb.tab h3 h3.lt (by omega), hb.tab h4 h4.lt (by omega), h5, h6, h7, h8⟩
theorem NS.putC (h : NS w0 pb g rg cb kt im key d L P SS CC wr) {s : Nat} (hs : s < 4) (r : Int) : NS w0 pb g rg cb kt im key d L P SS (fun i => if i = s then r else CC i) (wr.setCell ⟨cb, s, none⟩ (.int .u8 r)) := by
  obtain ⟨h0, h1, h2, h3, h4, h5, h6, h7, h8⟩ := h
  refine ⟨h0.setCell (by show w0.heap.size ≤ cb; omega) _, Blk.far h1 (by show g ≠ cb; omega) _, h2.far (by show rg ≠ cb; omega) _, h3.far (by show pb ≠ cb; omega) _, ?_, h5, h6, h7, h8⟩
  have := h4.set hs (j := 0) (by omega) (.int .u8 r)
  rw [Nat.mul_one, Nat.add_zero] at this
  refine this.ext fun i j hi hj => ?_
  obtain rfl : j = 0 := by omega
  unfold upd
  by_cases e : i = s
  · subst e; simp
  · simp [e]
end
def SR (s : Nat) (P : Nat → Nat) (SS : Nat → Sd) (CC : Nat → Int) : Prop := ∀ i, i < s → 0 ≤ CC i ∧ CC i ≤ 3 ∧ SS i = ⟨tx (CC i), (i : Int), kd (CC i), 0, { data := #[] }, 0, (P i : Nat), true⟩
theorem SR.step {s : Nat} {P : Nat → Nat} {SS : Nat → Sd} {CC : Nat → Int} (h : SR s P SS CC) {c : Int} (h0 : 0 ≤ c) (h3 : c ≤ 3) : SR (s + 1) P (updS SS s ⟨tx c, (s : Int), kd c, 0, { data := #[] }, 0, (P s : Nat), true⟩) (fun i => if i = s then c else CC i) := by
  intro i hi
  unfold updS
  by_cases e : i = s
  · subst e
    simp [h0, h3]
  · simp only [if_neg e]
    exact h i (by omega)
theorem sr_fires {P : Nat → Nat} {SS : Nat → Sd} {CC : Nat → Int} (h : SR 4 P SS CC) : fires 189 SS = true := by
  unfold fires
  rw [(h 0 (by omega)).2.2, (h 1 (by omega)).2.2, (h 2 (by omega)).2.2, (h 3 (by omega)).2.2]
  simp only [kd_ne]
  decide +kernel
set_option maxRecDepth 1000000 in
set_option maxHeartbeats 8000000 in
theorem sail10 (mw im : Bool) (g rg pb cb : Nat) (toks order : Int) (d : Nat → Nat) (L : Nat → Int) (P : Nat → Nat) (w0 w : World) (u4 u5 u6 u7 u8 u12 u13 u15 u16 u17 u18 u19 u20 u21 u22 u23 u24 u25 u26 u27 u28 u29 u30 u31 u32 u33 u34 u35 u36 u37 u38 u39 u40 u41 u42 u43 u44 u45 u46 u47 u48 u49 u50 u51 u52 u53 u54 u55 u56 u57 u58 u59 u60 u61 u62 u63 u64 u65 u66 u67 u68 u69 u70 u71 u72 u73 u74 u75 u76 u77 u78 u79 u80 u81 u82 u83 u84 u85 u86 u87 u88 u89 u90 u91 u92 u93 u94 u95 u96 u97 u98 u99 u100 u101 u102 u103 u104 u105 u106 u107 u108 u109 u110 u111 u112 u113 u114 u115 u116 u117 u118 u119 u120 u121 u122 u123 u124 u125 u126 u127 u128 u129 u130 u131 u132 u133 u134 u135 u136 u137 u138 u139 u140 u141 u142 u143 u144 u145 u146 u147 u148 u149 u150 u151 u152 u153 u154 u155 u156 u157 u158 u159 u160 u161 u162 u163 u164 u165 u166 u167 u168 u169 u170 u171 u172 u173 u174 u175 u176 : Value) (hp : PI 4 (fun _ => 0) P)
    (hm : NS w0 pb g rg cb { data := #[109, 97, 114, 103, 105, 110] } im 189 d L P (fun _ => Sd0) (fun _ => 0) w) :
    Code.wp Try.prog sest10 (bodyPost Try.prog Try.f4 fun e w' => e = .returned (.bool true) ∧ Below w0.heap.size w0 w') ⟨#[.int .u16 toks, .int .u8 order, .bool mw, .bool im, u4, u5, u6, u7, u8, .pointer (some ⟨pb, 0, none⟩), .pointer (some ⟨g, 0, none⟩), .slice (some ⟨rg, 0, none⟩) 4 4, u12, u13, .pointer (some ⟨cb, 0, none⟩), u15, u16, u17, u18, u19, u20, u21, u22, u23, u24, u25, u26, u27, u28, u29, u30, u31, u32, u33, u34, u35, u36, u37, u38, u39, u40, u41, u42, u43, u44, u45, u46, u47, u48, u49, u50, u51, u52, u53, u54, u55, u56, u57, u58, u59, u60, u61, u62, u63, u64, u65, u66, u67, u68, u69, u70, u71, u72, u73, u74, u75, u76, u77, u78, u79, u80, u81, u82, u83, u84, u85, u86, u87, u88, u89, u90, u91, u92, u93, u94, u95, u96, u97, u98, u99, u100, u101, u102, u103, u104, u105, u106, u107, u108, u109, u110, u111, u112, u113, u114, u115, u116, u117, u118, u119, u120, u121, u122, u123, u124, u125, u126, u127, u128, u129, u130, u131, u132, u133, u134, u135, u136, u137, u138, u139, u140, u141, u142, u143, u144, u145, u146, u147, u148, u149, u150, u151, u152, u153, u154, u155, u156, u157, u158, u159, u160, u161, u162, u163, u164, u165, u166, u167, u168, u169, u170, u171, u172, u173, u174, u175, u176], []⟩ w := by
  conv => arg 2; whnf
  have M0 := Lib.hid hm
  have HP := Lib.hid hp
  clear hm hp
  go_wp2_with fail
  go_loopw [15] (fun i wr => ∃ (s : Nat) (SS : Nat → Sd) (CC : Nat → Int), s ≤ 4 ∧ i = .int .i64 s ∧ Hid (SR s P SS CC) ∧ Hid (NS w0 pb g rg cb { data := #[109, 97, 114, 103, 105, 110] } im 189 d L P SS CC wr)) (fun i _ => 4 - (intOf i).toNat)
  case atStart => exact ⟨0, _, _, by omega, rfl, Lib.hid (fun i hi => absurd hi (Nat.not_lt_zero i)), M0⟩
  case round =>
    obtain ⟨s, SS, CC, hs, rfl, SJ, MJ⟩ := hrel
    clear M0
    by_cases hs4 : s < 4
    · as_aux_lemma =>
      have q1 : (0 : Int) ≤ (s : Int) := by omega
      have q2 : (s : Int) < 4 := by omega
      have c0 : wr.cell? ⟨cb, s, none⟩ = some (.int .u8 (CC s)) := tcell1 MJ.out.2.2.2.2.1 hs4
      have c1 : wr.frozen? ⟨cb, s, none⟩ = false := MJ.out.2.2.2.2.1.frozen _
      go_upto_region 14 with fail
      clear c0 c1
      generalize hcx : bits .and .u16 (toks / 2 ^ (4 * s)) 15 % 4 = c at *
      have hc1 : 0 ≤ c := by omega
      have hc2 : c ≤ 3 := by omega
      clear hcx
      have MC := Lib.hid ((MJ.out.putC hs4 c).step (Below.refl _ _).drew)
      clear MJ
      generalize wr.setCell ⟨cb, s, none⟩ (.int .u8 c) = Wa at *
      have hP := HP.out.2.1 s hs4
      have w2' := Lib.hid (wraps_i32 (s : Int) (by omega) (by omega))
      have w4' := Lib.hid (show IntKind.u32.wrap ((P s : Nat) : Int) = (P s : Nat) by rw [IntKind.wrap_u32]; omega)
      have HR := Lib.hid (fun (W : World) (SX : Nat → Sd) (h : NS w0 pb g rg cb { data := #[109, 97, 114, 103, 105, 110] } im 189 d L P SX (fun i => if i = s then c else CC i) W) => show W.cell? ⟨cb, s, none⟩ = some (.int .u8 c) ∧ W.cell? ⟨pb, s, none⟩ = some (.int .i64 (P s : Nat)) from by
        have h1 := tcell1 h.2.2.2.2.1 hs4
        have h2 := tcell1 h.2.2.2.1 hs4
        exact ⟨by simpa using h1, h2⟩)
      have START := Lib.hid (HR.out _ _ MC.out)
      go_region_held3 (fun w' => w'.cell? ⟨cb, s, none⟩ = some (.int .u8 c) ∧ w'.cell? ⟨pb, s, none⟩ = some (.int .i64 (P s : Nat)))
        (first | assumption | exact START.out)
        (first
          | (go_at_call 6; rw [w2'.out]; refine (tok6 _ _ _).mono ?_; rintro e_ w9 ⟨rfl, hb9⟩; have M9 := Lib.hid (MC.out.step hb9); have hI := HR.out _ _ M9.out; clear hb9)
          | (go_at_call 7; rw [w4'.out]; refine (setSide7 g s ⟨tx c, (s : Int), kd c, 0, { data := #[] }, 0, (P s : Nat), true⟩ { data := #[109, 97, 114, 103, 105, 110] } SS true im 189 _ hs4 M9.out.2.1).mono ?_; rintro e_ w10 ⟨rfl, hx, hk⟩; have M10 := Lib.hid (M9.out.side hk hx); have hI2 := HR.out _ _ M10.out; clear hx hk))
      go_wp2_with fail
      go_roundw
      case rel => exact ⟨s + 1, _, _, by omega, by go_num, Lib.hid (SJ.out.step hc1 hc2), M10⟩
      case measure => simp [intOf]; omega
    · obtain rfl : s = 4 := by omega
      go_upto_region 15 with fail
      go_cut [82] from 78 to 82 (fun s_ wx => Hid (Comp18 rg 4 { data := #[109, 97, 114, 103, 105, 110] } SS im 189 0 0 mw (fun i => some (d i)) L P wr (.returned (.tuple #[])) wx))
      case first =>
        have hrr : ∀ s, s < 4 → (SS s).r = (P s : Int) := fun i hi => by rw [(SJ.out i hi).2.2]
        have CT := Lib.hid (wrap10_yes g rg 4 4 { data := #[109, 97, 114, 103, 105, 110] } SS true im 189 0 0 mw (fun i => some (d i)) L wr (sr_fires SJ.out) MJ.out.2.1 MJ.out.2.2.1 (by have := MJ.out.2.2.2.2.2.2.2.1; omega) P hrr (fun i hi => HP.out.2.1 i hi))
        clear hrr
        go_wp2_with fail
        refine CT.out.mono ?_
        intro e w9 hc
        obtain rfl : e = .returned (.tuple #[]) := hc.1
        have HC := Lib.hid hc
        clear hc
        go_wp2_with fail
        go_meet
        exact HC
      case rest =>
        refine tailApply (by assumption) ?_
        obtain ⟨-, dd, tg, W', c1, c2, c3, c4, c5, c6⟩ := hcut.out
        obtain ⟨h0, h1, h2, h3, h4, h5, h6, h7, h8⟩ := MJ.out
        have eK : ∀ i, i < 4 → (SS i).k = kd (CC i) := fun i hi => by rw [(SJ.out i hi).2.2]
        have eT : ∀ i, i < 4 → (SS i).t = tx (CC i) := fun i hi => by rw [(SJ.out i hi).2.2]
        have eL : ∀ i, i < 4 → (SS i).l = (i : Int) := fun i hi => by rw [(SJ.out i hi).2.2]
        have em : cm (fun i => (SS i).k) (fun i => (SS i).t) = mc CC := by
          rw [cm_congr (K' := fun i => kd (CC i)) (T' := fun i => tx (CC i)) eK eT]
          exact cm_mc CC (fun i hi => ⟨(SJ.out i hi).1, by have := (SJ.out i hi).2.1; omega⟩)
        rw [em] at c2 c3 c4
        have hm := (mc_le CC).2
        exact sail16 mw im g rg pb cb dd tg _ toks order (fun i => some (d i)) L CC W' (fun i => (i : Int)) P w0 _ _ _ _ _ _ _ _ _ _ _ _ _ _ _ _ _ _ _ _ _ _ _ _ _ _ _ _ _ _ _ _ _ _ _ _ _ _ _ _ _ _ _ _ _ _ _ _ _ _ _ _ _ _ _ _ _ _ _ _ _ _ _ _ _ _ _ _ _ _ _ _ _ _ _ _ _ _ _ _ _ _ _ _ _ _ _ _ _ _ _ _ _ _ _ _ _ _ _ _ _ _ _ _ _ _ _ _ _ _ _ _ _ _ _ _ _ _ _ _ _ _ _ _ _ _ _ _ _ _ _ _ _ _ _ _ _ _ _ _ _ _ _ _ _ _ _ _ _ _ _ _ _ _ _ _ _ _ _ _ _ _ _ _ _ _ _ _ _ _ HP.out (h0.trans (c5.below h0.size (by omega))) (c5.tab h4 h4.lt (by omega)) c2.lt (c2.cell 1) (TR.ext c3 (fun i j hi hj => by unfold tc; simp only; rw [eK i (by omega), eT i (by omega), eL i (by omega)])) rfl (fun i hi => ⟨(SJ.out i hi).1, (SJ.out i hi).2.1⟩) c1 (c5.tab h3 h3.lt (by omega))
end Go.Proofs.Ytioilpdjfplffaa.ZT
