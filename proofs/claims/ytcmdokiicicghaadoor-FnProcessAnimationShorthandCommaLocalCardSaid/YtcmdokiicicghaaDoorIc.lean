/- processAnimationShorthand: one round at an identifier. -/
import Derived.Test.YtcmdokiicicghaaDoorIa
namespace Go.Proofs.YtcmdokiicicghaaDoor.WA
open Go Go.RowKit Go.Lib Go.Proofs.YtcmdokiicicghaaDoor.MP Go.Proofs.YtcmdokiicicghaaDoor.SY Go.Proofs.YtcmdokiicicghaaDoor.LO Go.Proofs.YtcmdokiicicghaaDoor.TB Go.Proofs.YtcmdokiicicghaaDoor.OW
set_option linter.unusedVariables false
section
variable {W0 w wx w' : World} {tb n fb tk pb mb : Nat} {ml : Bool} {F : Nat → Nat → Value} {L : List Ent} {f : Fl} {k : Int} {s : ByteArray}
theorem RI.below (h : RI W0 w wx tb n fb tk pb mb ml F L f k s) (hb : Below wx.heap.size wx w') : RI W0 w w' tb n fb tk pb mb ml F L f k s :=
  ⟨h.st.below hb, h.tab.below hb h.tab.lt, h.oth.trans (Oth.below hb), (hb.block fb (lt_some h.fl)).trans h.fl, (hb.block tk (lt_some h.cp)).trans h.cp, h.hfb⟩
theorem RI.text (h : RI W0 w wx tb n fb tk pb mb ml F L f k s) : wx.cell? ⟨tk, 1, none⟩ = some (.string s) := by rw [cell_of_row wx tk 1 _ _ _ h.cp]; rfl
theorem RI.kind (h : RI W0 w wx tb n fb tk pb mb ml F L f k s) : wx.cell? ⟨tk, 5, none⟩ = some (.int .u8 k) := by rw [cell_of_row wx tk 5 _ _ _ h.cp]; rfl
theorem RI.flag (h : RI W0 w wx tb n fb tk pb mb ml F L f k s) (j : Nat) : wx.cell? ⟨fb, j, none⟩ = f.cells[j]? := cell_of_row wx fb j _ _ _ h.fl
theorem RI.free (h : RI W0 w wx tb n fb tk pb mb ml F L f k s) (j : Nat) : wx.frozen? ⟨fb, j, none⟩ = false := froz3 h.fl
theorem RI.lower (hT : Tabs W0) (h : RI W0 w wx tb n fb tk pb mb ml F L f k s) (hs : s.size ≤ 1048576) : Calls Tryd.prog 35 #[.string s] wx fun e w' => e = .returned (.string (low s)) ∧ Below wx.heap.size wx w' :=
  Go.Proofs.YtcmdokiicicghaaDoor.WA.lower s wx hs ⟨CaseVar_below hT.1 h.st.bel, Utf8Tabs_below hT.2.1 h.st.bel, hT.2.2.below h.st.bel⟩
theorem RI.put (h : RI W0 w wx tb n fb tk pb mb ml F L f k s) (j : Nat) (u : Value) : St W0 (wx.setCell ⟨fb, j, none⟩ u) pb mb ml L ∧ Tab (wx.setCell ⟨fb, j, none⟩ u) tb TT 7 n F ∧ Oth tb w (wx.setCell ⟨fb, j, none⟩ u) ∧ (wx.setCell ⟨fb, j, none⟩ u).heap[fb]? = some (.cells (f.cells.setIfInBounds j u) TF (0, 0)) := by
  have hne : tb ≠ fb := by
    rintro rfl
    obtain ⟨cs, hb, -⟩ := h.tab
    unfold Blk at hb
    rw [h.fl] at hb
    simp at hb
    exact absurd hb.2 (by decide)
  refine ⟨h.st.setAt h.fl (by decide) (by decide) (by decide) h.hfb.1 j u, h.tab.far hne _, fun g c ty fr hg h1 h2 h3 h4 => ?_, Blk.set_ h.fl j u⟩
  exact (Below.heap_setCell wx ⟨fb, j, none⟩ u g (by have := lt_some hg; have := h.hfb.2; show g ≠ fb; omega)).trans (h.oth g c ty fr hg h1 h2 h3 h4)
theorem isIn_false {W : List (List UInt8)} {s : ByteArray} (h : isIn W s = false) : ∀ v ∈ W, ((low s).toList == v) = false := by
  intro v hv
  unfold isIn at h
  rw [decide_eq_false_iff_not] at h
  rw [beq_eq_false_iff_ne, low_list]
  rintro rfl
  exact h hv
theorem isIn_true {W : List (List UInt8)} {s : ByteArray} (h : isIn W s = true) : (low s).toList ∈ W := by
  unfold isIn at h
  rw [decide_eq_true_eq] at h
  rw [low_list]; exact h
end
/-- Six stores into the flags' block. -/
theorem RI.reset {W0 w wx : World} {tb n fb tk pb mb : Nat} {ml : Bool} {F : Nat → Nat → Value} {L : List Ent} {f : Fl} {k : Int} {s : ByteArray} (h : RI W0 w wx tb n fb tk pb mb ml F L f k s) :
    ∃ W, W = ((((((wx.setCell ⟨fb, 0, none⟩ (.bool false)).setCell ⟨fb, 1, none⟩ (.bool false)).setCell ⟨fb, 2, none⟩ (.bool false)).setCell ⟨fb, 3, none⟩ (.bool false)).setCell ⟨fb, 4, none⟩ (.bool false)).setCell ⟨fb, 5, none⟩ (.bool false)) ∧
      St W0 W pb mb ml L ∧ Tab W tb TT 7 n F ∧ Oth tb w W ∧ W.heap[fb]? = some (.cells Fl.z.cells TF (0, 0)) := by
  have hne : tb ≠ fb := by
    rintro rfl
    obtain ⟨cs, hb, -⟩ := h.tab
    unfold Blk at hb
    rw [h.fl] at hb
    simp at hb
    exact absurd hb.2 (by decide)
  have key : ∀ (x : World) (cs : Array Value) (j : Nat) (u : Value), St W0 x pb mb ml L ∧ Tab x tb TT 7 n F ∧ Oth tb w x ∧ x.heap[fb]? = some (.cells cs TF (0, 0)) →
      St W0 (x.setCell ⟨fb, j, none⟩ u) pb mb ml L ∧ Tab (x.setCell ⟨fb, j, none⟩ u) tb TT 7 n F ∧ Oth tb w (x.setCell ⟨fb, j, none⟩ u) ∧ (x.setCell ⟨fb, j, none⟩ u).heap[fb]? = some (.cells (cs.setIfInBounds j u) TF (0, 0)) := by
    rintro x cs j u ⟨a1, a2, a3, a4⟩
    refine ⟨a1.setAt a4 (by decide) (by decide) (by decide) h.hfb.1 j u, a2.far hne _, fun g c ty fr hg h1 h2 h3 h4 => ?_, Blk.set_ a4 j u⟩
    exact (Below.heap_setCell x ⟨fb, j, none⟩ u g (by have := lt_some hg; have := h.hfb.2; show g ≠ fb; omega)).trans (a3 g c ty fr hg h1 h2 h3 h4)
  have h6 := key _ _ 5 (.bool false) (key _ _ 4 (.bool false) (key _ _ 3 (.bool false) (key _ _ 2 (.bool false) (key _ _ 1 (.bool false) (key _ _ 0 (.bool false) ⟨h.st, h.tab, h.oth, h.fl⟩)))))
  exact ⟨_, rfl, h6⟩
theorem ri_hs {W0 w wx w' : World} {tb n fb tk pb mb i : Nat} {ml c : Bool} {F : Nat → Nat → Value} {L : List Ent} {f : Fl} {k : Int} {s t : ByteArray} (h : RI W0 w wx tb n fb tk pb mb ml F L f k s) (hne : tb ≠ tk)
    (hX : St W0 w' pb mb ml (if c then tick L t else L) ∧ Tab w' tb TT 7 n (if c then upd (upd F i 5 (.int .u8 39)) i 3 (.int .u32 (spot L t : Int)) else F) ∧ Oth tb wx w') :
    RI W0 w w' tb n fb tk pb mb ml (if c then upd (upd F i 5 (.int .u8 39)) i 3 (.int .u32 (spot L t : Int)) else F) (if c then tick L t else L) f k s := by
  obtain ⟨h1, h2, h3⟩ := hX
  have hnf : fb ≠ tb := by
    rintro rfl
    obtain ⟨cs, hb, -⟩ := h.tab
    unfold Blk at hb
    rw [h.fl] at hb
    simp at hb
    exact absurd hb.2 (by decide)
  exact ⟨h1, h2, h.oth.trans h3, (h3 fb _ _ _ h.fl (by decide) (by decide) (by decide) hnf).trans h.fl, (h3 tk _ _ _ h.cp (by decide) (by decide) (by decide) (Ne.symm hne)).trans h.cp, h.hfb⟩
def RelS (W0 w : World) (tb n pb mb : Nat) (ml : Bool) (K : Nat → Int) (T : Nat → ByteArray) (i : Value) (wr : World) : Prop :=
  ∃ k : Nat, k ≤ n ∧ i = .int .i64 k ∧ Hid (Tab wr tb TT 7 n (tkp (hit ml K T) K T k)) ∧ Hid (St W0 wr pb mb ml (Lt (hit ml K T) T k)) ∧ Hid (Oth tb w wr) ∧ Hid (wr.heap[w.heap.size]? = some (.cells (flg K T k).cells TF (0, 0)))
theorem rel_no {W0 w wr : World} {tb n pb mb k : Nat} {ml : Bool} {K : Nat → Int} {T : Nat → ByteArray} {f : Fl} {cs : Array Value} (hlt : k < n) (hs : stp (K k) (T k) (flg K T k) = (f, false))
    (h1 : Hid (Tab wr tb TT 7 n (tkp (hit ml K T) K T k))) (h2 : Hid (St W0 wr pb mb ml (Lt (hit ml K T) T k))) (h3 : Hid (Oth tb w wr)) (h4 : Hid (wr.heap[w.heap.size]? = some (.cells cs TF (0, 0)))) (hc : cs = f.cells) :
    RelS W0 w tb n pb mb ml K T (.int .i64 ((k : Int) + 1)) wr := by
  have hh : hit ml K T k = false := by unfold hit; rw [hs]; rfl
  have hf : flg K T (k + 1) = f := congrArg Prod.fst hs
  exact ⟨k + 1, by omega, by go_num, Lib.hid (tkp_no h1.out hh), by rw [Lt_no hh]; exact h2, h3, by rw [hf, ← hc]; exact h4⟩
theorem rel_no' {W0 w wr : World} {tb n pb mb k : Nat} {ml : Bool} {K : Nat → Int} {T : Nat → ByteArray} {f : Fl} {cs : Array Value} (hlt : k < n) (hs : (stp (K k) (T k) (flg K T k)).1 = f) (hh : hit ml K T k = false)
    (h1 : Hid (Tab wr tb TT 7 n (tkp (hit ml K T) K T k))) (h2 : Hid (St W0 wr pb mb ml (Lt (hit ml K T) T k))) (h3 : Hid (Oth tb w wr)) (h4 : Hid (wr.heap[w.heap.size]? = some (.cells cs TF (0, 0)))) (hc : cs = f.cells) :
    RelS W0 w tb n pb mb ml K T (.int .i64 ((k : Int) + 1)) wr :=
  ⟨k + 1, by omega, by go_num, Lib.hid (tkp_no h1.out hh), by rw [Lt_no hh]; exact h2, h3, by rw [show flg K T (k + 1) = f from hs, ← hc]; exact h4⟩
theorem rel_yes {W0 w wr : World} {tb n pb mb k : Nat} {ml : Bool} {K : Nat → Int} {T : Nat → ByteArray} {f : Fl} {cs : Array Value} (hlt : k < n) (hs : (stp (K k) (T k) (flg K T k)).1 = f) (hh : hit ml K T k = true)
    (h1 : Hid (Tab wr tb TT 7 n (upd (upd (tkp (hit ml K T) K T k) k 5 (.int .u8 39)) k 3 (.int .u32 (spot (Lt (hit ml K T) T k) (T k) : Int))))) (h2 : Hid (St W0 wr pb mb ml (tick (Lt (hit ml K T) T k) (T k)))) (h3 : Hid (Oth tb w wr)) (h4 : Hid (wr.heap[w.heap.size]? = some (.cells cs TF (0, 0)))) (hc : cs = f.cells) :
    RelS W0 w tb n pb mb ml K T (.int .i64 ((k : Int) + 1)) wr :=
  ⟨k + 1, by omega, by go_num, Lib.hid (tkp_yes h1.out hh), by rw [Lt_yes hh]; exact h2, h3, by rw [show flg K T (k + 1) = f from hs, ← hc]; exact h4⟩
set_option maxRecDepth 100000 in
set_option maxHeartbeats 4000000 in
theorem passS {W0 w : World} {tb n pb mb : Nat} {ml : Bool} {K : Nat → Int} {T : Nat → ByteArray} (hT : Tabs W0) (hS : St W0 w pb mb ml []) (hB : Tab w tb TT 7 n (tkc K T (fun _ => 0))) (htb : W0.heap.size ≤ tb) (hs : ∀ i, i < n → (T i).size ≤ 1048576) (hn : n ≤ 4096) :
    Calls Tryd.prog 34 #[.pointer (some ⟨pb, 0, none⟩), .slice (some ⟨tb, 0, none⟩) n n] w (PassP W0 w tb n pb mb ml (hit ml K T) K T) := by
  have HT := Lib.hid hT
  have HZ := Lib.hid hs
  have S0 := Lib.hid hS
  have B0 : Hid (Tab w tb TT 7 n (tkp (hit ml K T) K T 0)) := by rw [tkp_zero]; exact Lib.hid hB
  have hbl : ∀ w : World, (Instr.build TF #[]).run Tryd.prog w = .ok (.agg #[.bool false, .bool false, .bool false, .bool false, .bool false, .bool false]) w := fun w => run_build w TF _ _ (by kernel_rfl)
  clear hT hS hB hs
  go_enter Tryd.func34, Tryd.ntmps34
  go_wp2_with fail
  have FB : Hid ((w.alloc (.cells Fl.z.cells TF)).heap[w.heap.size]? = some (.cells Fl.z.cells TF (0, 0))) := Lib.hid (heap_alloc_new w _)
  have SA := Lib.hid (S0.out.alloc (.cells Fl.z.cells TF))
  have BA := Lib.hid (B0.out.alloc (.cells Fl.z.cells TF))
  have OA : Hid (Oth tb w (w.alloc (.cells Fl.z.cells TF))) := Lib.hid (Oth.below ((Below.refl w.heap.size w).alloc (Nat.le_refl _) _))
  have hws := S0.out.size
  obtain ⟨fb, hfb⟩ : ∃ fb, w.heap.size = fb := ⟨_, rfl⟩
  rw [hfb] at FB hws
  have HFB := Lib.hid hfb
  clear S0 B0 hfb
  go_loopw [10] (fun i wr => RelS W0 w tb n pb mb ml K T i wr) (fun i _ => n - (intOf i).toNat)
  case atStart => exact ⟨0, Nat.zero_le _, rfl, BA, SA, OA, by rw [HFB.out]; exact FB⟩
  case round =>
    obtain ⟨k, hk, rfl, BB, SS, OO, FF⟩ := hrel
    clear FB SA BA OA
    by_cases hlt : k < n
    · obtain ⟨y0, y1, y2, y3, y4, y5, y6⟩ := row_facts BB.out hlt
      have hsk := HZ.out k hlt
      have q1 : (0 : Int) ≤ (k : Int) := by omega
      have q2 : (k : Int) < (n : Int) := by omega
      have htl := BB.out.lt
      have r1 : tb ≠ wr.heap.size := by omega
      have R0 : Hid (RI W0 w (wr.alloc (.cells #[.pointer none, .string (T k), .int .i32 0, .int .u32 0, .int .u16 0, .int .u8 (K k), .int .u8 0] TT)) tb n w.heap.size wr.heap.size pb mb ml (tkp (hit ml K T) K T k) (Lt (hit ml K T) T k) (flg K T k) (K k) (T k)) :=
        Lib.hid ⟨SS.out.alloc _, BB.out.alloc _, OO.out.trans (Oth.below (tb := tb) ((Below.refl wr.heap.size wr).alloc (Nat.le_refl _) _)), (Below.heap_alloc wr _ w.heap.size (lt_some FF.out)).trans FF.out, heap_alloc_new wr _, by rw [HFB.out]; exact ⟨hws, Nat.le_refl _⟩⟩
      have HL := Lib.hid (Lt_small (hit ml K T) T k)
      clear BB SS OO FF
      by_cases h29 : K k = 29
      · rw [h29] at y5 R0
        have HK := Lib.hid h29
        clear h29
        generalize hf : flg K T k = f at *
        obtain ⟨b0, b1, b2, b3, b4, b5⟩ := f
        have HF := Lib.hid hf
        clear hf
        go_upto_region 4 with (fail)
        generalize wr.alloc (.cells #[.pointer none, .string (T k), .int .i32 0, .int .u32 0, .int .u16 0, .int .u8 29, .int .u8 0] TT) = wx at *
        clear y0 y1 y2 y3 y4 y5 y6
        have htk := (Array.getElem?_eq_some_iff.1 R0.out.cp).1
        generalize wr.heap.size = tk at *
        have hkind := R0.out.kind
        have htext := R0.out.text
        have c0 : wx.cell? ⟨w.heap.size, 0, none⟩ = some (.bool b0) := R0.out.flag 0
        have fr0 := R0.out.free 0
        have HLo := Lib.hid (R0.out.lower HT.out hsk)
        go_upto_if 30 with (fail)
        go_cut [33] (fun _ w1 => Hid (RI W0 w w1 tb n w.heap.size tk pb mb ml (tkp (hit ml K T) K T k) (Lt (hit ml K T) T k) ⟨b0, b1, b2, b3, b4, b5⟩ 29 (T k)) ∧ Hid (b0 = false → isIn timW (T k) = false))
        case first =>
          cases b0
          · cases ht : isIn timW (T k)
            · have hw := isIn_false ht
              have w0 := hw [108, 105, 110, 101, 97, 114] (by decide)
              have w1 := hw [101, 97, 115, 101] (by decide)
              have w2 := hw [101, 97, 115, 101, 45, 105, 110] (by decide)
              have w3 := hw [101, 97, 115, 101, 45, 111, 117, 116] (by decide)
              have w4 := hw [101, 97, 115, 101, 45, 105, 110, 45, 111, 117, 116] (by decide)
              have w5 := hw [115, 116, 101, 112, 45, 115, 116, 97, 114, 116] (by decide)
              have w6 := hw [115, 116, 101, 112, 45, 101, 110, 100] (by decide)
              have HI := Lib.hid ht
              clear hw ht
              go_wp2_with (go_at_call 35; refine HLo.out.mono ?_; rintro e w2 ⟨rfl, hb⟩; have RQ := Lib.hid (R0.out.below hb); have d0 : w2.cell? ⟨w.heap.size, 0, none⟩ = some (.bool false) := RQ.out.flag 0; have e0 := RQ.out.free 0; clear hb)
              go_meet
              exact ⟨RQ, Lib.hid (fun _ => HI.out)⟩
            · have HI := Lib.hid ht
              have hw := isIn_true ht
              unfold timW at hw
              simp only [List.mem_cons, List.not_mem_nil, or_false] at hw
              clear ht
              have HS : Hid (stp (K k) (T k) (flg K T k) = (⟨true, b1, b2, b3, b4, b5⟩, false)) := Lib.hid (by
                rw [HK.out, HF.out]
                unfold stp
                rw [if_neg (by decide), if_neg (by decide), if_pos rfl, if_pos ⟨rfl, HI.out⟩])
              rcases hw with hw | hw | hw | hw | hw | hw | hw
              all_goals
                go_wp2_with (go_at_call 35; refine HLo.out.mono ?_; rintro e w2 ⟨rfl, hb⟩; have RQ := Lib.hid (R0.out.below hb); have d0 : w2.cell? ⟨w.heap.size, 0, none⟩ = some (.bool false) := RQ.out.flag 0; have e0 := RQ.out.free 0; clear hb)
                obtain ⟨z1, z2, z3, z4⟩ := RQ.out.put 0 (.bool true)
                go_roundw
                case rel => exact rel_no hlt HS.out (Lib.hid z2) (Lib.hid z1) (Lib.hid z3) (Lib.hid z4) rfl
                case measure => simp [intOf]; omega
          · go_wp2_with fail
            go_meet
            exact ⟨R0, Lib.hid (fun h => by cases h)⟩
        obtain ⟨R1, H0⟩ := hcut
        clear R0 HLo htext c0 fr0
        obtain ⟨w1x, hwx⟩ : ∃ W, W = wc := ⟨_, rfl⟩
        subst hwx
        have htext := R1.out.text
        have c1 : w1x.cell? ⟨w.heap.size, 1, none⟩ = some (.bool b1) := R1.out.flag 1
        have HLo := Lib.hid (R1.out.lower HT.out hsk)
        go_upto_region 21 with (fail)
        go_cut [51] (fun s w1 => s = .bool (!b1 && isIn infW (T k)) ∧ Hid (RI W0 w w1 tb n w.heap.size tk pb mb ml (tkp (hit ml K T) K T k) (Lt (hit ml K T) T k) ⟨b0, b1, b2, b3, b4, b5⟩ 29 (T k)))
        case first =>
          cases b1
          · have hw : ((low (T k)).toList == [105, 110, 102, 105, 110, 105, 116, 101]) = isIn infW (T k) := by
              unfold isIn infW
              rw [low_list, Bool.eq_iff_iff]
              simp
            generalize isIn infW (T k) = D at *
            go_wp2_with (go_at_call 35; refine HLo.out.mono ?_; rintro e w2 ⟨rfl, hb⟩; have RQ := Lib.hid (R1.out.below hb); clear hb)
            go_meet
            exact ⟨rfl, RQ⟩
          · go_wp2_with fail
            go_meet
            exact ⟨rfl, R1⟩
        obtain ⟨rfl, RA⟩ := hcut
        clear R1 HLo htext c1
        obtain ⟨w2x, hwx⟩ : ∃ W, W = wc := ⟨_, rfl⟩
        subst hwx
        have d1 : w2x.cell? ⟨w.heap.size, 1, none⟩ = some (.bool b1) := RA.out.flag 1
        have e1 := RA.out.free 1
        cases hv : (!b1 && isIn infW (T k))
        · have H1 : Hid (b1 = false → isIn infW (T k) = false) := Lib.hid (fun h => by rw [h] at hv; simpa using hv)
          have R2 := RA
          clear hv d1 e1 RA
          have htext := R2.out.text
          have c2 : w2x.cell? ⟨w.heap.size, 2, none⟩ = some (.bool b2) := R2.out.flag 2
          have fr2 := R2.out.free 2
          have HLo := Lib.hid (R2.out.lower HT.out hsk)
          go_upto_if 55 with (fail)
          go_cut [58] (fun _ w1 => Hid (RI W0 w w1 tb n w.heap.size tk pb mb ml (tkp (hit ml K T) K T k) (Lt (hit ml K T) T k) ⟨b0, b1, b2, b3, b4, b5⟩ 29 (T k)) ∧ Hid (b2 = false → isIn dirW (T k) = false))
          case first =>
            cases b2
            · cases ht : isIn dirW (T k)
              · have hw := isIn_false ht
                have w0 := hw [110, 111, 114, 109, 97, 108] (by decide)
                have w1 := hw [114, 101, 118, 101, 114, 115, 101] (by decide)
                have w2 := hw [97, 108, 116, 101, 114, 110, 97, 116, 101] (by decide)
                have w3 := hw [97, 108, 116, 101, 114, 110, 97, 116, 101, 45, 114, 101, 118, 101, 114, 115, 101] (by decide)
                have HI := Lib.hid ht
                clear hw ht
                go_wp2_with (go_at_call 35; refine HLo.out.mono ?_; rintro e w2 ⟨rfl, hb⟩; have RQ := Lib.hid (R2.out.below hb); have d2 : w2.cell? ⟨w.heap.size, 2, none⟩ = some (.bool false) := RQ.out.flag 2; have e2 := RQ.out.free 2; clear hb)
                go_meet
                exact ⟨RQ, Lib.hid (fun _ => HI.out)⟩
              · have HI := Lib.hid ht
                have hw := isIn_true ht
                unfold dirW at hw
                simp only [List.mem_cons, List.not_mem_nil, or_false] at hw
                clear ht
                have HS : Hid (stp (K k) (T k) (flg K T k) = (⟨b0, b1, true, b3, b4, b5⟩, false)) := Lib.hid (by
                  rw [HK.out, HF.out]
                  unfold stp
                  rw [if_neg (by decide), if_neg (by decide), if_pos rfl, if_neg (fun h => absurd ((H0.out h.1).symm.trans h.2) (by decide)), if_neg (fun h => absurd ((H1.out h.1).symm.trans h.2) (by decide)), if_pos ⟨rfl, HI.out⟩])
                rcases hw with hw | hw | hw | hw
                all_goals
                  go_wp2_with (go_at_call 35; refine HLo.out.mono ?_; rintro e w2 ⟨rfl, hb⟩; have RQ := Lib.hid (R2.out.below hb); have d2 : w2.cell? ⟨w.heap.size, 2, none⟩ = some (.bool false) := RQ.out.flag 2; have e2 := RQ.out.free 2; clear hb)
                  obtain ⟨z1, z2, z3, z4⟩ := RQ.out.put 2 (.bool true)
                  go_roundw
                  case rel => exact rel_no hlt HS.out (Lib.hid z2) (Lib.hid z1) (Lib.hid z3) (Lib.hid z4) rfl
                  case measure => simp [intOf]; omega
            · go_wp2_with fail
              go_meet
              exact ⟨R2, Lib.hid (fun h => by cases h)⟩
          obtain ⟨R3, H2⟩ := hcut
          clear R2 HLo htext c2 fr2
          obtain ⟨w3x, hwx⟩ : ∃ W, W = wc := ⟨_, rfl⟩
          subst hwx
          have htext := R3.out.text
          have c3 : w3x.cell? ⟨w.heap.size, 3, none⟩ = some (.bool b3) := R3.out.flag 3
          have fr3 := R3.out.free 3
          have HLo := Lib.hid (R3.out.lower HT.out hsk)
          go_upto_if 67 with (fail)
          go_cut [70] (fun _ w1 => Hid (RI W0 w w1 tb n w.heap.size tk pb mb ml (tkp (hit ml K T) K T k) (Lt (hit ml K T) T k) ⟨b0, b1, b2, b3, b4, b5⟩ 29 (T k)) ∧ Hid (b3 = false → isIn filW (T k) = false))
          case first =>
            cases b3
            · cases ht : isIn filW (T k)
              · have hw := isIn_false ht
                have w0 := hw [110, 111, 110, 101] (by decide)
                have w1 := hw [102, 111, 114, 119, 97, 114, 100, 115] (by decide)
                have w2 := hw [98, 97, 99, 107, 119, 97, 114, 100, 115] (by decide)
                have w3 := hw [98, 111, 116, 104] (by decide)
                have HI := Lib.hid ht
                clear hw ht
                go_wp2_with (go_at_call 35; refine HLo.out.mono ?_; rintro e w2 ⟨rfl, hb⟩; have RQ := Lib.hid (R3.out.below hb); have d3 : w2.cell? ⟨w.heap.size, 3, none⟩ = some (.bool false) := RQ.out.flag 3; have e3 := RQ.out.free 3; clear hb)
                go_meet
                exact ⟨RQ, Lib.hid (fun _ => HI.out)⟩
              · have HI := Lib.hid ht
                have hw := isIn_true ht
                unfold filW at hw
                simp only [List.mem_cons, List.not_mem_nil, or_false] at hw
                clear ht
                have HS : Hid (stp (K k) (T k) (flg K T k) = (⟨b0, b1, b2, true, b4, b5⟩, false)) := Lib.hid (by
                  rw [HK.out, HF.out]
                  unfold stp
                  rw [if_neg (by decide), if_neg (by decide), if_pos rfl, if_neg (fun h => absurd ((H0.out h.1).symm.trans h.2) (by decide)), if_neg (fun h => absurd ((H1.out h.1).symm.trans h.2) (by decide)), if_neg (fun h => absurd ((H2.out h.1).symm.trans h.2) (by decide)), if_pos ⟨rfl, HI.out⟩])
                rcases hw with hw | hw | hw | hw
                all_goals
                  go_wp2_with (go_at_call 35; refine HLo.out.mono ?_; rintro e w2 ⟨rfl, hb⟩; have RQ := Lib.hid (R3.out.below hb); have d3 : w2.cell? ⟨w.heap.size, 3, none⟩ = some (.bool false) := RQ.out.flag 3; have e3 := RQ.out.free 3; clear hb)
                  obtain ⟨z1, z2, z3, z4⟩ := RQ.out.put 3 (.bool true)
                  go_roundw
                  case rel => exact rel_no hlt HS.out (Lib.hid z2) (Lib.hid z1) (Lib.hid z3) (Lib.hid z4) rfl
                  case measure => simp [intOf]; omega
            · go_wp2_with fail
              go_meet
              exact ⟨R3, Lib.hid (fun h => by cases h)⟩
          obtain ⟨R4, H3⟩ := hcut
          clear R3 HLo htext c3 fr3
          obtain ⟨w4x, hwx⟩ : ∃ W, W = wc := ⟨_, rfl⟩
          subst hwx
          have htext := R4.out.text
          have c4 : w4x.cell? ⟨w.heap.size, 4, none⟩ = some (.bool b4) := R4.out.flag 4
          have fr4 := R4.out.free 4
          have HLo := Lib.hid (R4.out.lower HT.out hsk)
          go_upto_if 79 with (fail)
          go_cut [82] (fun _ w1 => Hid (RI W0 w w1 tb n w.heap.size tk pb mb ml (tkp (hit ml K T) K T k) (Lt (hit ml K T) T k) ⟨b0, b1, b2, b3, b4, b5⟩ 29 (T k)) ∧ Hid (b4 = false → isIn plaW (T k) = false))
          case first =>
            cases b4
            · cases ht : isIn plaW (T k)
              · have hw := isIn_false ht
                have w0 := hw [114, 117, 110, 110, 105, 110, 103] (by decide)
                have w1 := hw [112, 97, 117, 115, 101, 100] (by decide)
                have HI := Lib.hid ht
                clear hw ht
                go_wp2_with (go_at_call 35; refine HLo.out.mono ?_; rintro e w2 ⟨rfl, hb⟩; have RQ := Lib.hid (R4.out.below hb); have d4 : w2.cell? ⟨w.heap.size, 4, none⟩ = some (.bool false) := RQ.out.flag 4; have e4 := RQ.out.free 4; clear hb)
                go_meet
                exact ⟨RQ, Lib.hid (fun _ => HI.out)⟩
              · have HI := Lib.hid ht
                have hw := isIn_true ht
                unfold plaW at hw
                simp only [List.mem_cons, List.not_mem_nil, or_false] at hw
                clear ht
                have HS : Hid (stp (K k) (T k) (flg K T k) = (⟨b0, b1, b2, b3, true, b5⟩, false)) := Lib.hid (by
                  rw [HK.out, HF.out]
                  unfold stp
                  rw [if_neg (by decide), if_neg (by decide), if_pos rfl, if_neg (fun h => absurd ((H0.out h.1).symm.trans h.2) (by decide)), if_neg (fun h => absurd ((H1.out h.1).symm.trans h.2) (by decide)), if_neg (fun h => absurd ((H2.out h.1).symm.trans h.2) (by decide)), if_neg (fun h => absurd ((H3.out h.1).symm.trans h.2) (by decide)), if_pos ⟨rfl, HI.out⟩])
                rcases hw with hw | hw
                all_goals
                  go_wp2_with (go_at_call 35; refine HLo.out.mono ?_; rintro e w2 ⟨rfl, hb⟩; have RQ := Lib.hid (R4.out.below hb); have d4 : w2.cell? ⟨w.heap.size, 4, none⟩ = some (.bool false) := RQ.out.flag 4; have e4 := RQ.out.free 4; clear hb)
                  obtain ⟨z1, z2, z3, z4⟩ := RQ.out.put 4 (.bool true)
                  go_roundw
                  case rel => exact rel_no hlt HS.out (Lib.hid z2) (Lib.hid z1) (Lib.hid z3) (Lib.hid z4) rfl
                  case measure => simp [intOf]; omega
            · go_wp2_with fail
              go_meet
              exact ⟨R4, Lib.hid (fun h => by cases h)⟩
          obtain ⟨R5, H4⟩ := hcut
          clear R4 HLo htext c4 fr4
          obtain ⟨w5x, hwx⟩ : ∃ W, W = wc := ⟨_, rfl⟩
          subst hwx
          have c5 : w5x.cell? ⟨w.heap.size, 5, none⟩ = some (.bool b5) := R5.out.flag 5
          have fr5 := R5.out.free 5
          have HE1 : Hid (tkp (hit ml K T) K T k k 1 = .string (T k)) := Lib.hid (by unfold tkp; rw [if_neg (by omega)]; rfl)
          have HE2 : Hid (tkp (hit ml K T) K T k k 2 = .int .i32 0) := Lib.hid (by unfold tkp; rw [if_neg (by omega)]; rfl)
          have HE3 : Hid (∃ p : Int, tkp (hit ml K T) K T k k 3 = .int .u32 p) := Lib.hid ⟨0, by unfold tkp; rw [if_neg (by omega)]; rfl⟩
          have HE5 : Hid (tkp (hit ml K T) K T k k 5 = .int .u8 29) := Lib.hid (by unfold tkp; rw [if_neg (by omega)]; simp [tkc, HK.out])
          have HSS : Hid (stp (K k) (T k) (flg K T k) = if b5 = false then (⟨b0, b1, b2, b3, b4, true⟩, true) else (⟨b0, b1, b2, b3, b4, b5⟩, false)) := Lib.hid (by
            rw [HK.out, HF.out]
            unfold stp
            rw [if_neg (by decide), if_neg (by decide), if_pos rfl, if_neg (fun h => absurd ((H0.out h.1).symm.trans h.2) (by decide)), if_neg (fun h => absurd ((H1.out h.1).symm.trans h.2) (by decide)), if_neg (fun h => absurd ((H2.out h.1).symm.trans h.2) (by decide)), if_neg (fun h => absurd ((H3.out h.1).symm.trans h.2) (by decide)), if_neg (fun h => absurd ((H4.out h.1).symm.trans h.2) (by decide))])
          cases b5
          · rw [if_pos rfl] at HSS
            cases hc : cv ml 29 (T k)
            · have hkk : (29 : Int) = 29 ∨ ((29 : Int) = 36 ∧ ml = false) := .inl rfl
              have hr : resB (T k).data.toList = true := by
                unfold cv at hc
                rw [if_pos hkk] at hc
                simpa using hc
              have HX := Lib.hid (hs_no HT.out R5.out.st R5.out.tab hlt HE1.out HE5.out hsk hkk hr)
              have HH : Hid (hit ml K T k = false) := Lib.hid (by unfold hit; rw [HK.out, hc]; simp)
              clear hc hkk hr
              go_wp2_with (go_at_call 36; refine HX.out.mono ?_; rintro e w6 ⟨rfl, hX⟩; have RQ := Lib.hid (ri_hs R5.out r1 hX); have d5 : w6.cell? ⟨w.heap.size, 5, none⟩ = some (.bool false) := RQ.out.flag 5; have e5 := RQ.out.free 5; clear hX)
              obtain ⟨z1, z2, z3, z4⟩ := RQ.out.put 5 (.bool true)
              go_roundw
              case rel => exact rel_no' hlt (f := ⟨b0, b1, b2, b3, b4, true⟩) (congrArg Prod.fst HSS.out) HH.out (Lib.hid z2) (Lib.hid z1) (Lib.hid z3) (Lib.hid z4) rfl
              case measure => simp [intOf]; omega
            · have HX := Lib.hid (hs_yes k HT.out R5.out.st R5.out.tab hlt HE1.out HE2.out HE3.out HE5.out hsk (.inl rfl) hc htb HL.out (by omega))
              have HH : Hid (hit ml K T k = true) := Lib.hid (by unfold hit; rw [HSS.out, HK.out, hc]; rfl)
              clear hc
              go_wp2_with (go_at_call 36; refine HX.out.mono ?_; rintro e w6 ⟨rfl, hX⟩; have RQ := Lib.hid (ri_hs R5.out r1 hX); have d5 : w6.cell? ⟨w.heap.size, 5, none⟩ = some (.bool false) := RQ.out.flag 5; have e5 := RQ.out.free 5; clear hX)
              obtain ⟨z1, z2, z3, z4⟩ := RQ.out.put 5 (.bool true)
              go_roundw
              case rel => exact rel_yes hlt (f := ⟨b0, b1, b2, b3, b4, true⟩) (congrArg Prod.fst HSS.out) HH.out (Lib.hid z2) (Lib.hid z1) (Lib.hid z3) (Lib.hid z4) rfl
              case measure => simp [intOf]; omega
          · rw [if_neg (by decide)] at HSS
            go_wp2_with fail
            go_roundw
            case rel => exact rel_no hlt HSS.out (Lib.hid R5.out.tab) (Lib.hid R5.out.st) (Lib.hid R5.out.oth) (Lib.hid R5.out.fl) rfl
            case measure => simp [intOf]; omega
        · have hv1 : b1 = false ∧ isIn infW (T k) = true := by
            cases b1
            · exact ⟨rfl, by simpa using hv⟩
            · cases hv
          have HI := Lib.hid hv1.2
          have hb1 := hv1.1
          clear hv hv1
          subst hb1
          have HS : Hid (stp (K k) (T k) (flg K T k) = (⟨b0, true, b2, b3, b4, b5⟩, false)) := Lib.hid (by
            rw [HK.out, HF.out]
            unfold stp
            rw [if_neg (by decide), if_neg (by decide), if_pos rfl, if_neg (fun h => absurd ((H0.out h.1).symm.trans h.2) (by decide)), if_pos ⟨rfl, HI.out⟩])
          obtain ⟨z1, z2, z3, z4⟩ := RA.out.put 1 (.bool true)
          have Z1 := Lib.hid z1
          have Z2 := Lib.hid z2
          have Z3 := Lib.hid z3
          have Z4 := Lib.hid z4
          clear z1 z2 z3 z4
          go_wp2_with fail
          go_roundw
          case rel => exact rel_no hlt HS.out Z2 Z1 Z3 Z4 rfl
          case measure => simp [intOf]; omega
      · have hne29 : (K k == 29) = false := beq_eq_false_iff_ne.2 h29
        have H29 := Lib.hid h29
        clear h29
        by_cases h10 : K k = 10
        · rw [h10] at y5 R0
          have HK := Lib.hid h10
          clear h10
          go_upto_region 4 with (fail)
          generalize wr.alloc (.cells #[.pointer none, .string (T k), .int .i32 0, .int .u32 0, .int .u16 0, .int .u8 10, .int .u8 0] TT) = wx at *
          clear y0 y1 y2 y3 y4 y5 y6
          generalize wr.heap.size = tk at *
          have hkind := R0.out.kind
          have c0 := R0.out.flag 0
          have c1 := R0.out.flag 1
          have c2 := R0.out.flag 2
          have c3 := R0.out.flag 3
          have c4 := R0.out.flag 4
          have c5 := R0.out.flag 5
          have e0 := R0.out.free 0
          have e1 := R0.out.free 1
          have e2 := R0.out.free 2
          have e3 := R0.out.free 3
          have e4 := R0.out.free 4
          have e5 := R0.out.free 5
          simp only [Fl.cells, List.getElem?_toArray, List.getElem?_cons_zero, List.getElem?_cons_succ] at c0 c1 c2 c3 c4 c5
          obtain ⟨W6, hW6, z1, z2, z3, z4⟩ := R0.out.reset
          have HW6 := Lib.hid hW6
          have Z1 := Lib.hid z1
          have Z2 := Lib.hid z2
          have Z3 := Lib.hid z3
          have Z4 := Lib.hid z4
          have HS : Hid ((stp (K k) (T k) (flg K T k)).1 = Fl.z) := Lib.hid (by rw [HK.out]; rfl)
          have HH := Lib.hid (hit_comma ml K T k HK.out)
          clear z1 z2 z3 z4 hW6
          go_wp2_with fail
          go_roundw
          case rel =>
            rw [← HW6.out]
            exact rel_no' hlt HS.out HH.out Z2 Z1 Z3 Z4 rfl
          case measure => simp [intOf]; omega
        · have hne10 : (K k == 10) = false := beq_eq_false_iff_ne.2 h10
          have H10 := Lib.hid h10
          clear h10
          by_cases h30 : K k = 30
          · rw [h30] at y5 R0
            have HK := Lib.hid h30
            clear h30
            go_upto_region 4 with (fail)
            generalize wr.alloc (.cells #[.pointer none, .string (T k), .int .i32 0, .int .u32 0, .int .u16 0, .int .u8 30, .int .u8 0] TT) = wx at *
            clear y0 y1 y2 y3 y4 y5 y6
            generalize wr.heap.size = tk at *
            have hkind := R0.out.kind
            generalize hf : flg K T k = f at *
            obtain ⟨b0, b1, b2, b3, b4, b5⟩ := f
            have HF := Lib.hid hf
            clear hf
            have c1 : wx.cell? ⟨w.heap.size, 1, none⟩ = some (.bool b1) := R0.out.flag 1
            have e1 := R0.out.free 1
            have HS : Hid (stp (K k) (T k) (flg K T k) = (⟨b0, true, b2, b3, b4, b5⟩, false)) := Lib.hid (by rw [HK.out, HF.out]; rfl)
            cases b1
            · obtain ⟨z1, z2, z3, z4⟩ := R0.out.put 1 (.bool true)
              have Z1 := Lib.hid z1
              have Z2 := Lib.hid z2
              have Z3 := Lib.hid z3
              have Z4 := Lib.hid z4
              clear z1 z2 z3 z4
              go_wp2_with fail
              go_roundw
              case rel => exact rel_no hlt HS.out Z2 Z1 Z3 Z4 rfl
              case measure => simp [intOf]; omega
            · go_wp2_with fail
              go_roundw
              case rel => exact rel_no hlt HS.out (Lib.hid R0.out.tab) (Lib.hid R0.out.st) (Lib.hid R0.out.oth) (Lib.hid R0.out.fl) rfl
              case measure => simp [intOf]; omega
          · have hne30 : (K k == 30) = false := beq_eq_false_iff_ne.2 h30
            have H30 := Lib.hid h30
            clear h30
            by_cases h36 : K k = 36
            · rw [h36] at y5 R0
              have HK := Lib.hid h36
              clear h36
              go_upto_region 4 with (fail)
              generalize wr.alloc (.cells #[.pointer none, .string (T k), .int .i32 0, .int .u32 0, .int .u16 0, .int .u8 36, .int .u8 0] TT) = wx at *
              clear y0 y1 y2 y3 y4 y5 y6
              generalize wr.heap.size = tk at *
              have hkind := R0.out.kind
              generalize hf : flg K T k = f at *
              obtain ⟨b0, b1, b2, b3, b4, b5⟩ := f
              have HF := Lib.hid hf
              clear hf
              have c5 : wx.cell? ⟨w.heap.size, 5, none⟩ = some (.bool b5) := R0.out.flag 5
              have fr5 := R0.out.free 5
              have HE1 : Hid (tkp (hit ml K T) K T k k 1 = .string (T k)) := Lib.hid (by unfold tkp; rw [if_neg (by omega)]; rfl)
              have HE2 : Hid (tkp (hit ml K T) K T k k 2 = .int .i32 0) := Lib.hid (by unfold tkp; rw [if_neg (by omega)]; rfl)
              have HE3 : Hid (∃ p : Int, tkp (hit ml K T) K T k k 3 = .int .u32 p) := Lib.hid ⟨0, by unfold tkp; rw [if_neg (by omega)]; rfl⟩
              have HE5 : Hid (tkp (hit ml K T) K T k k 5 = .int .u8 36) := Lib.hid (by unfold tkp; rw [if_neg (by omega)]; simp [tkc, HK.out])
              have HSS : Hid (stp (K k) (T k) (flg K T k) = if b5 = false then (⟨b0, b1, b2, b3, b4, true⟩, true) else (⟨b0, b1, b2, b3, b4, b5⟩, false)) := Lib.hid (by rw [HK.out, HF.out]; rfl)
              cases b5
              · rw [if_pos rfl] at HSS
                cases hc : cv ml 36 (T k)
                · have hkk : (36 : Int) = 29 ∨ ((36 : Int) = 36 ∧ ml = false) := by
                    unfold cv at hc
                    by_cases h : (36 : Int) = 29 ∨ ((36 : Int) = 36 ∧ ml = false)
                    · exact h
                    · rw [if_neg h] at hc; cases hc
                  have hr : resB (T k).data.toList = true := by
                    unfold cv at hc
                    rw [if_pos hkk] at hc
                    simpa using hc
                  have HX := Lib.hid (hs_no HT.out R0.out.st R0.out.tab hlt HE1.out HE5.out hsk hkk hr)
                  have HH : Hid (hit ml K T k = false) := Lib.hid (by unfold hit; rw [HK.out, hc]; simp)
                  clear hc hkk hr
                  go_wp2_with (go_at_call 36; refine HX.out.mono ?_; rintro e w6 ⟨rfl, hX⟩; have RQ := Lib.hid (ri_hs R0.out r1 hX); have d5 : w6.cell? ⟨w.heap.size, 5, none⟩ = some (.bool false) := RQ.out.flag 5; have e5 := RQ.out.free 5; clear hX)
                  obtain ⟨z1, z2, z3, z4⟩ := RQ.out.put 5 (.bool true)
                  go_roundw
                  case rel => exact rel_no' hlt (f := ⟨b0, b1, b2, b3, b4, true⟩) (congrArg Prod.fst HSS.out) HH.out (Lib.hid z2) (Lib.hid z1) (Lib.hid z3) (Lib.hid z4) rfl
                  case measure => simp [intOf]; omega
                · have HX := Lib.hid (hs_yes k HT.out R0.out.st R0.out.tab hlt HE1.out HE2.out HE3.out HE5.out hsk (.inr rfl) hc htb HL.out (by omega))
                  have HH : Hid (hit ml K T k = true) := Lib.hid (by unfold hit; rw [HSS.out, HK.out, hc]; rfl)
                  clear hc
                  go_wp2_with (go_at_call 36; refine HX.out.mono ?_; rintro e w6 ⟨rfl, hX⟩; have RQ := Lib.hid (ri_hs R0.out r1 hX); have d5 : w6.cell? ⟨w.heap.size, 5, none⟩ = some (.bool false) := RQ.out.flag 5; have e5 := RQ.out.free 5; clear hX)
                  obtain ⟨z1, z2, z3, z4⟩ := RQ.out.put 5 (.bool true)
                  go_roundw
                  case rel => exact rel_yes hlt (f := ⟨b0, b1, b2, b3, b4, true⟩) (congrArg Prod.fst HSS.out) HH.out (Lib.hid z2) (Lib.hid z1) (Lib.hid z3) (Lib.hid z4) rfl
                  case measure => simp [intOf]; omega
              · rw [if_neg (by decide)] at HSS
                go_wp2_with fail
                go_roundw
                case rel => exact rel_no hlt HSS.out (Lib.hid R0.out.tab) (Lib.hid R0.out.st) (Lib.hid R0.out.oth) (Lib.hid R0.out.fl) rfl
                case measure => simp [intOf]; omega
            · have hne36 : (K k == 36) = false := beq_eq_false_iff_ne.2 h36
              have HS : Hid (stp (K k) (T k) (flg K T k) = (flg K T k, false)) := Lib.hid (by unfold stp; rw [if_neg H10.out, if_neg H30.out, if_neg H29.out, if_neg h36])
              clear h36
              go_upto_region 4 with (fail)
              generalize wr.alloc (.cells #[.pointer none, .string (T k), .int .i32 0, .int .u32 0, .int .u16 0, .int .u8 (K k), .int .u8 0] TT) = wx at *
              clear y0 y1 y2 y3 y4 y5 y6
              generalize wr.heap.size = tk at *
              have hkind := R0.out.kind
              go_wp2_with fail
              go_roundw
              case rel => exact rel_no hlt HS.out (Lib.hid R0.out.tab) (Lib.hid R0.out.st) (Lib.hid R0.out.oth) (Lib.hid R0.out.fl) rfl
              case measure => simp [intOf]; omega
    · obtain rfl : k = n := by omega
      go_wp2_with fail
      go_end0
      exact ⟨rfl, SS.out, BB.out, OO.out⟩
end Go.Proofs.YtcmdokiicicghaaDoor.WA
