/- processListStyleType, walked. -/
import Derived.Test.YtdlaponmnepciaaDoorLa
import Derived.Test.YtdlaponmnepciaaDoorKa
import Derived.Deep.RegionWith
namespace Go.Proofs.YtdlaponmnepciaaDoor.WA
open Go Go.RowKit Go.Lib Go.Proofs.YtdlaponmnepciaaDoor.MP Go.Proofs.YtdlaponmnepciaaDoor.SY Go.Proofs.YtdlaponmnepciaaDoor.LO Go.Proofs.YtdlaponmnepciaaDoor.TB Go.Proofs.YtdlaponmnepciaaDoor.OW
set_option linter.unusedVariables false
/-- The cells of a token. -/
def tokc (s : ByteArray) (pay : Int) (k : Int) : Array Value := #[.pointer none, .string s, .int .i32 0, .int .u32 pay, .int .u16 0, .int .u8 k, .int .u8 0]
def TokB (w : World) (tb : Nat) (s : ByteArray) (pay k : Int) : Prop := w.heap[tb]? = some (.cells (tokc s pay k) 34 (0, 0))
section
variable {w w' : World} {tb : Nat} {s : ByteArray} {pay k : Int}
theorem TokB.lt (h : TokB w tb s pay k) : tb < w.heap.size := (Array.getElem?_eq_some_iff.1 h).1
theorem TokB.c1 (h : TokB w tb s pay k) : w.cell? ⟨tb, 1, none⟩ = some (.string s) := by rw [cell_of_row w tb 1 _ _ _ h]; rfl
theorem TokB.c2 (h : TokB w tb s pay k) : w.cell? ⟨tb, 2, none⟩ = some (.int .i32 0) := by rw [cell_of_row w tb 2 _ _ _ h]; rfl
theorem TokB.c3 (h : TokB w tb s pay k) : w.cell? ⟨tb, 3, none⟩ = some (.int .u32 pay) := by rw [cell_of_row w tb 3 _ _ _ h]; rfl
theorem TokB.c5 (h : TokB w tb s pay k) : w.cell? ⟨tb, 5, none⟩ = some (.int .u8 k) := by rw [cell_of_row w tb 5 _ _ _ h]; rfl
theorem TokB.fr (h : TokB w tb s pay k) (j : Nat) : w.frozen? ⟨tb, j, none⟩ = false := froz3 h
theorem TokB.below (h : TokB w tb s pay k) (hb : Below w.heap.size w w') : TokB w' tb s pay k := (hb.block tb h.lt).trans h
theorem set_block {cs : Array Value} {t : TypeId} {b j : Nat} (u : Value) (h : w.heap[b]? = some (.cells cs t (0, 0))) : (w.setCell ⟨b, j, none⟩ u).heap[b]? = some (.cells (cs.setIfInBounds j u) t (0, 0)) := by
  have hlt := (Array.getElem?_eq_some_iff.1 h).1
  have h' : w.heap[b] = .cells cs t (0, 0) := by simpa [Array.getElem?_eq_getElem hlt] using h
  show (w.heap.modify b _)[b]? = _
  rw [Array.getElem?_eq_getElem (by simpa using hlt), Array.getElem_modify_self, h']
  rfl
theorem TokB.kindTo (h : TokB w tb s pay k) (k' : Int) : TokB (w.setCell ⟨tb, 5, none⟩ (.int .u8 k')) tb s pay k' := set_block _ h
theorem TokB.payTo (h : TokB w tb s pay k) (p' : Int) : TokB (w.setCell ⟨tb, 3, none⟩ (.int .u32 p')) tb s p' k := set_block _ h
end
def cust (s : ByteArray) : Bool := !decide (toLowerD s.data.toList = noneW) && !decide (toLowerD s.data.toList ∈ wideW) && !decide (toLowerD s.data.toList ∈ predW)
/-- The parser's table, and what the call was given, are as they were; block tb apart. -/
structure St (W0 w : World) (pb mb : Nat) (ml : Bool) (L : List Ent) : Prop where
  tab : ∃ f sv lv, PS w W0.heap.size pb mb ml L L (if ml then L else []) f sv lv
  bel : Below W0.heap.size W0 w
def Oth (tb : Nat) (w w' : World) : Prop := ∀ (g : Nat) (c : Array Value) (ty : TypeId) (fr : Nat × Nat), w.heap[g]? = some (.cells c ty fr) → ty ≠ TP → ty ≠ TS → ty ≠ TL → g ≠ tb → w'.heap[g]? = w.heap[g]?
def LstP (W0 w : World) (tb pb mb : Nat) (ml : Bool) (L : List Ent) (s : ByteArray) (pay k : Int) (e : Ending) (w' : World) : Prop :=
  e = .returned (.tuple #[]) ∧ St W0 w' pb mb ml L ∧ TokB w' tb s pay k ∧ Oth tb w w'
set_option maxRecDepth 100000 in
set_option maxHeartbeats 2000000 in
theorem lst_no (W0 w : World) (tb pb mb : Nat) (ml : Bool) (L : List Ent) (s : ByteArray) (pay k : Int) (hS : St W0 w pb mb ml L) (hT : TokB w tb s pay k) (hk : (k == 29) = false) :
    Calls Tryd.prog 15 #[.pointer (some ⟨pb, 0, none⟩), .pointer (some ⟨tb, 0, none⟩)] w (LstP W0 w tb pb mb ml L s pay k) := by
  have HS := Lib.hid hS
  have HT := Lib.hid hT
  have c5 := hT.c5
  clear hS hT
  go_enter Tryd.func15, Tryd.ntmps15
  go_wp2_with fail
  go_end0
  exact ⟨rfl, HS.out, HT.out, fun _ _ _ _ _ _ _ _ _ => rfl⟩
theorem lower_st {W0 w : World} (hT : Tabs W0) (hb : Below W0.heap.size W0 w) (s : ByteArray) (hs : s.size ≤ 1048576) : Calls Tryd.prog 19 #[.string s] w fun e w' => e = .returned (.string (low s)) ∧ Below w.heap.size w w' :=
  lower s w hs (hT.below hb)
theorem PS.st_below {W0 w w' : World} {pb mb : Nat} {ml : Bool} {L : List Ent} (h : St W0 w pb mb ml L) (hb : Below w.heap.size w w') : St W0 w' pb mb ml L :=
  ⟨let ⟨f, sv, lv, P⟩ := h.tab; ⟨f, sv, lv, P.below hb⟩, h.bel.trans (hb.mono h.bel.size)⟩
theorem St.setTok {W0 w : World} {pb mb tb : Nat} {ml : Bool} {L : List Ent} {s : ByteArray} {pay k : Int} (h : St W0 w pb mb ml L) (hT : TokB w tb s pay k) (htb : W0.heap.size ≤ tb) (j : Nat) (u : Value) : St W0 (w.setCell ⟨tb, j, none⟩ u) pb mb ml L := by
  obtain ⟨f, sv, lv, P⟩ := h.tab
  refine ⟨⟨f, sv, lv, P.set_away (p := ⟨tb, j, none⟩) u htb ?_ ?_ ?_ ?_⟩, h.bel.setCell htb _⟩
  · rintro rfl
    obtain ⟨c, hc, -⟩ := P.par
    unfold TokB at hT
    rw [hT] at hc
    simp at hc
    exact absurd hc.2 (by decide)
  · rintro rfl
    have := P.sm
    unfold SMap at this
    unfold TokB at hT
    rw [hT] at this
    cases this
  · intro hv
    obtain ⟨c, hc⟩ := own_at P.sy hv
    unfold TokB at hT
    rw [hT] at hc
    simp at hc
    exact absurd hc.2 (by decide)
  · intro hv
    obtain ⟨c, hc⟩ := own_at P.lc hv
    unfold TokB at hT
    rw [hT] at hc
    simp at hc
    exact absurd hc.2 (by decide)
theorem St.drewN {W0 w : World} {pb mb : Nat} {ml : Bool} {L : List Ent} (h : St W0 w pb mb ml L) (n : Nat) : St W0 (w.drewN n) pb mb ml L :=
  ⟨let ⟨f, sv, lv, P⟩ := h.tab; ⟨f, sv, lv, P.drewN n⟩, below_drewN h.bel n⟩
/-- symbolForName out of the state. -/
def SyP (W0 w : World) (pb mb : Nat) (ml : Bool) (L : List Ent) (i : Nat) (e : Ending) (w' : World) : Prop :=
  (∃ l0 : Int, e = .returned (.agg #[.int .i32 l0, .int .u32 0, .int .u32 i])) ∧ St W0 w' pb mb ml L ∧ (∀ (g : Nat) (c : Array Value) (ty : TypeId) (fr : Nat × Nat), w.heap[g]? = some (.cells c ty fr) → ty ≠ TP → ty ≠ TS → ty ≠ TL → w'.heap[g]? = w.heap[g]?)
theorem sym_st {W0 w : World} {pb mb : Nat} {ml : Bool} {L : List Ent} (nm : ByteArray) (n : Nat) (h : St W0 w pb mb ml L) (hs : Small L n) (hn : n ≤ 16777216) :
    Calls Tryd.prog 20 #[.pointer (some ⟨pb, 0, none⟩), .agg #[.int .i32 0], .string nm] w (SyP W0 w pb mb ml (tick L nm) (spot L nm)) := by
  obtain ⟨f, sv, lv, P⟩ := h.tab
  exact (sym_any w _ pb mb ml L f sv lv nm n P hs hn).mono fun e w' hq => ⟨hq.1, ⟨hq.2.1, h.bel.trans hq.2.2.below⟩, hq.2.2.oth⟩
theorem lt_some {w : World} {g : Nat} {o : Obj} (h : w.heap[g]? = some o) : g < w.heap.size := (Array.getElem?_eq_some_iff.1 h).1
theorem Oth.below {tb : Nat} {w w' : World} (hb : Below w.heap.size w w') : Oth tb w w' := fun g c ty fr hg _ _ _ _ => hb.block g (lt_some hg)
theorem Oth.set {tb : Nat} {w : World} (j : Nat) (u : Value) : Oth tb w (w.setCell ⟨tb, j, none⟩ u) := fun g c ty fr hg _ _ _ hne => Below.heap_setCell w ⟨tb, j, none⟩ u g hne
theorem Oth.trans {tb : Nat} {w w' w'' : World} (h : Oth tb w w') (k : Oth tb w' w'') : Oth tb w w'' :=
  fun g c ty fr hg h1 h2 h3 h4 => (k g c ty fr ((h g c ty fr hg h1 h2 h3 h4).trans hg) h1 h2 h3 h4).trans (h g c ty fr hg h1 h2 h3 h4)
theorem fld_ref (a b c : Int) (w : World) : (Instr.field 97 (.agg #[.int .i32 a, .int .u32 b, .int .u32 c]) 1).run Tryd.prog w = .ok (.agg #[.int .u32 b, .int .u32 c]) w := by kernel_rfl
theorem fld_inner (b c : Int) (w : World) : (Instr.field 87 (.agg #[.int .u32 b, .int .u32 c]) 1).run Tryd.prog w = .ok (.int .u32 c) w := by kernel_rfl
set_option maxRecDepth 100000 in
set_option maxHeartbeats 2000000 in
theorem lst_id (W0 w : World) (tb pb mb : Nat) (ml : Bool) (L : List Ent) (s : ByteArray) (pay : Int) (n : Nat) (hW : Tabs W0) (hs : s.size ≤ 1048576) (hS : St W0 w pb mb ml L) (hT : TokB w tb s pay 29) (hn : Small L n) (hn2 : n ≤ 16777216) (hc : cust s = true) (htb : W0.heap.size ≤ tb) :
    Calls Tryd.prog 15 #[.pointer (some ⟨pb, 0, none⟩), .pointer (some ⟨tb, 0, none⟩)] w (LstP W0 w tb pb mb ml (tick L s) s (spot L s) 39) := by
  have HS := Lib.hid hS
  have HT := Lib.hid hT
  have HL := Lib.hid (lower_st hW hS.bel s hs)
  have HW := Lib.hid hW
  have c5 := hT.c5
  have c1 := hT.c1
  have c2 := hT.c2
  have htl := hT.lt
  unfold cust at hc
  simp only [Bool.and_eq_true, Bool.not_eq_true', decide_eq_false_iff_not] at hc
  obtain ⟨⟨hc1, hc2⟩, hc3⟩ := hc
  have e1 : (!(low s).toList == [110, 111, 110, 101]) = true := by rw [low_list]; simpa [noneW] using hc1
  have e2 : decide ((low s).data.toList ∈ wideW) = false := by rw [low_data]; simpa using hc2
  have e3 : decide ((low s).data.toList ∈ predW) = false := by rw [low_data]; simpa using hc3
  have HLo := Lib.hid (low_le s hs)
  clear hS hT hW hs hc1 hc2 hc3
  go_enter Tryd.func15, Tryd.ntmps15
  go_wp2_with (
    go_at_call 19
    refine HL.out.mono ?_
    rintro e w1 ⟨rfl, hb⟩
    have S1 := Lib.hid (PS.st_below HS.out hb)
    have T1 := Lib.hid (HT.out.below hb)
    have O1 : Hid (Oth tb w w1) := Lib.hid (Oth.below hb)
    obtain ⟨-, -, ⟨bm0, k0, -, -, l0⟩, ⟨bm1, k1, -, -, l1⟩, -⟩ := HW.out.below S1.out.bel
    have l0 := l0 w1 rfl (low s) HLo.out
    have l1 := l1 w1 rfl (low s) HLo.out
    rw [e2] at l0
    rw [e3] at l1
    have d5 := T1.out.c5
    have d1 := T1.out.c1
    have d2 := T1.out.c2
    have df5 := T1.out.fr 5
    clear HL HT HS hb)
  have S2 := Lib.hid (S1.out.setTok T1.out htb 5 (.int .u8 39))
  have O2 := Lib.hid (O1.out.trans (Oth.set (w := w1) 5 (.int .u8 39)))
  have T2 := Lib.hid (T1.out.kindTo 39)
  clear O1 S1 T1 d5 d1 d2 df5 l0 l1 k0 k1
  generalize w1.setCell ⟨tb, 5, none⟩ (.int .u8 39) = W2 at *
  have d1 := T2.out.c1
  have d2 := T2.out.c2
  have f1 := fld_ref
  have f2 := fld_inner
  go_region_with (
    go_at_call 20
    refine (sym_st s n (S2.out.drewN 1) hn hn2).mono ?_
    rintro e w3 ⟨⟨l0, rfl⟩, S3, O3⟩
    have T3 : Hid (TokB w3 tb s pay 39) := Lib.hid ((O3 tb _ _ _ T2.out (by decide) (by decide) (by decide)).trans T2.out)
    have d3f := T3.out.fr 3
    have d3 := T3.out.c3
    have S3 := Lib.hid S3
    have O3 := Lib.hid O3)
  all_goals
    go_end0
    exact ⟨rfl, S3.out.setTok T3.out htb 3 _, T3.out.payTo _, (O2.out.trans (fun g c ty fr hg h1 h2 h3 _ => O3.out g c ty fr hg h1 h2 h3)).trans (Oth.set 3 _)⟩
set_option maxRecDepth 100000 in
set_option maxHeartbeats 2000000 in
theorem lst_id_no (W0 w : World) (tb pb mb : Nat) (ml : Bool) (L : List Ent) (s : ByteArray) (pay : Int) (hW : Tabs W0) (hs : s.size ≤ 1048576) (hS : St W0 w pb mb ml L) (hT : TokB w tb s pay 29) (hc : cust s = false) :
    Calls Tryd.prog 15 #[.pointer (some ⟨pb, 0, none⟩), .pointer (some ⟨tb, 0, none⟩)] w (LstP W0 w tb pb mb ml L s pay 29) := by
  have HS := Lib.hid hS
  have HT := Lib.hid hT
  have HL := Lib.hid (lower_st hW hS.bel s hs)
  have HW := Lib.hid hW
  have HLo := Lib.hid (low_le s hs)
  have c5 := hT.c5
  have c1 := hT.c1
  have c2 := hT.c2
  have htl := hT.lt
  unfold cust at hc
  have key : ((!(low s).toList == [110, 111, 110, 101]) = false) ∨ ((!(low s).toList == [110, 111, 110, 101]) = true ∧ decide ((low s).data.toList ∈ wideW) = true) ∨ ((!(low s).toList == [110, 111, 110, 101]) = true ∧ decide ((low s).data.toList ∈ wideW) = false ∧ decide ((low s).data.toList ∈ predW) = true) := by
    rw [low_data, low_list]
    by_cases h1 : toLowerD s.data.toList = [110, 111, 110, 101]
    · left; rw [h1]; rfl
    have h1' : (toLowerD s.data.toList == [110, 111, 110, 101]) = false := beq_eq_false_iff_ne.2 h1
    have h1'' : decide (toLowerD s.data.toList = noneW) = false := decide_eq_false h1
    by_cases h2 : toLowerD s.data.toList ∈ wideW
    · right; left; exact ⟨by rw [h1']; rfl, decide_eq_true h2⟩
    by_cases h3 : toLowerD s.data.toList ∈ predW
    · right; right; exact ⟨by rw [h1']; rfl, decide_eq_false h2, decide_eq_true h3⟩
    exfalso
    rw [h1'', decide_eq_false h2, decide_eq_false h3] at hc
    cases hc
  clear hS hT hW hs hc
  rcases key with e1 | ⟨e1, e2⟩ | ⟨e1, e2, e3⟩
  · go_enter Tryd.func15, Tryd.ntmps15
    go_wp2_with (
      go_at_call 19
      refine HL.out.mono ?_
      rintro e w1 ⟨rfl, hb⟩
      have S1 := Lib.hid (PS.st_below HS.out hb)
      have T1 := Lib.hid (HT.out.below hb)
      have O1 : Hid (Oth tb w w1) := Lib.hid (Oth.below hb)
      clear HL HT HS hb)
    go_end0
    exact ⟨rfl, S1.out, T1.out, O1.out⟩
  · go_enter Tryd.func15, Tryd.ntmps15
    go_wp2_with (
      go_at_call 19
      refine HL.out.mono ?_
      rintro e w1 ⟨rfl, hb⟩
      have S1 := Lib.hid (PS.st_below HS.out hb)
      have T1 := Lib.hid (HT.out.below hb)
      have O1 : Hid (Oth tb w w1) := Lib.hid (Oth.below hb)
      obtain ⟨-, -, ⟨bm0, k0, -, -, l0⟩, -, -⟩ := HW.out.below S1.out.bel
      replace l0 := l0 w1 rfl (low s) HLo.out
      rw [e2] at l0
      clear HL HT HS hb)
    go_end0
    exact ⟨rfl, S1.out, T1.out, O1.out⟩
  · go_enter Tryd.func15, Tryd.ntmps15
    go_wp2_with (
      go_at_call 19
      refine HL.out.mono ?_
      rintro e w1 ⟨rfl, hb⟩
      have S1 := Lib.hid (PS.st_below HS.out hb)
      have T1 := Lib.hid (HT.out.below hb)
      have O1 : Hid (Oth tb w w1) := Lib.hid (Oth.below hb)
      obtain ⟨-, -, ⟨bm0, k0, -, -, l0⟩, ⟨bm1, k1, -, -, l1⟩, -⟩ := HW.out.below S1.out.bel
      replace l0 := l0 w1 rfl (low s) HLo.out
      replace l1 := l1 w1 rfl (low s) HLo.out
      rw [e2] at l0
      rw [e3] at l1
      clear HL HT HS hb)
    go_end0
    exact ⟨rfl, S1.out, T1.out, O1.out⟩
end Go.Proofs.YtdlaponmnepciaaDoor.WA
