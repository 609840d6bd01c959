/- handleSingleContainerName, walked. -/
import Derived.Test.YtmfpgnedeonmiaaDoorSt
import Derived.Test.YtmfpgnedeonmiaaDoorXc
namespace Go.Proofs.YtmfpgnedeonmiaaDoor.WA
open Go Go.RowKit Go.Lib Go.Proofs.YtmfpgnedeonmiaaDoor.MP Go.Proofs.YtmfpgnedeonmiaaDoor.SY Go.Proofs.YtmfpgnedeonmiaaDoor.LO Go.Proofs.YtmfpgnedeonmiaaDoor.TB Go.Proofs.YtmfpgnedeonmiaaDoor.OW
set_option linter.unusedVariables false
def HsP (X : Nat → Prop) (W0 w : World) (tb n i pb mb : Nat) (ml : Bool) (L : List Ent) (F : Nat → Nat → Value) (s : ByteArray) (c : Bool) (e : Ending) (w' : World) : Prop :=
  e = .returned (.tuple #[]) ∧ St X W0 w' pb mb ml (if c then tick L s else L) ∧ Tab w' tb TT 7 n (if c then upd (upd F i 5 (.int .u8 39)) i 3 (.int .u32 (spot L s : Int)) else F) ∧ Oth X w w'
/-- The word in lower case: the first test, and the look-up. -/
theorem low_no (s : ByteArray) (h : resB s.data.toList = false) : ((low s).toList == [110, 111, 110, 101]) = false ∧ decide ((low s).data.toList ∈ mapW) = false := by
  rw [← resB_eq, decide_eq_false_iff_not] at h
  unfold words at h
  rw [List.mem_cons, not_or] at h
  exact ⟨by rw [low_list, beq_eq_false_iff_ne]; exact h.1, by rw [low_data, decide_eq_false_iff_not]; exact h.2⟩
theorem low_yes (s : ByteArray) (h : resB s.data.toList = true) : ((low s).toList == [110, 111, 110, 101]) = true ∨ (((low s).toList == [110, 111, 110, 101]) = false ∧ decide ((low s).data.toList ∈ mapW) = true) := by
  rw [← resB_eq, decide_eq_true_eq] at h
  unfold words at h
  rw [List.mem_cons] at h
  rw [low_list, low_data]
  by_cases e : toLowerD s.data.toList = [110, 111, 110, 101]
  · left; rw [e]; rfl
  · right; exact ⟨beq_eq_false_iff_ne.2 e, decide_eq_true (h.resolve_left e)⟩
section
variable {X : Nat → Prop} {W0 w : World} {tb n i pb mb : Nat} {ml : Bool} {L : List Ent} {F : Nat → Nat → Value} {s : ByteArray} {k : Int}
theorem St.tabs (hT : Tabs W0) (hS : St X W0 w pb mb ml L) : Tabs w := ⟨CaseVar_below hT.1 (hS.bel.mono (Nat.le_refl _)), Utf8Tabs_below hT.2.1 hS.bel, hT.2.2.below hS.bel⟩
set_option maxRecDepth 100000 in
set_option maxHeartbeats 2000000 in
theorem hs_no (hT : Tabs W0) (hS : St X W0 w pb mb ml L) (hB : Tab w tb TT 7 n F) (hi : i < n) (h1 : F i 1 = .string s) (hs : s.size ≤ 1048576) (hr : resB s.data.toList = true) :
    Calls Tryd.prog 26 #[.pointer (some ⟨pb, 0, none⟩), .pointer (some ⟨tb, i * 7, none⟩)] w (HsP X W0 w tb n i pb mb ml L F s false) := by
  have HS := Lib.hid hS
  have HB := Lib.hid hB
  have HT := Lib.hid (St.tabs hT hS)
  have LW := Lib.hid (lower s w hs HT.out)
  have HL := Lib.hid (low_le s hs)
  have c1 := hB.cell hi (j := 1) (by omega)
  rw [h1] at c1
  have hy := low_yes s hr
  clear hT hS hB hi h1 hs hr
  rcases hy with hy | ⟨hy, hm⟩
  · go_enter Tryd.func26, Tryd.ntmps26
    go_wp2_with (
      go_at_call 28
      refine LW.out.mono ?_
      rintro e w1 ⟨rfl, hb⟩
      have BB := Lib.hid hb
      clear hb)
    go_end0
    exact ⟨rfl, HS.out.below BB.out, HB.out.below BB.out HB.out.lt, Oth.below HS.out.top BB.out⟩
  · go_enter Tryd.func26, Tryd.ntmps26
    go_wp2_with (
      go_at_call 28
      refine LW.out.mono ?_
      rintro e w1 ⟨rfl, hb⟩
      have BB := Lib.hid hb
      obtain ⟨bm, m1, m0, m2, m3⟩ := (HT.out.below hb).2.2
      have lk := m3 w1 rfl (low s) HL.out
      rw [hm] at lk
      clear hb m3)
    go_end0
    exact ⟨rfl, HS.out.below BB.out, HB.out.below BB.out HB.out.lt, Oth.below HS.out.top BB.out⟩
/-- The converting half, from the store of the kind on. -/
theorem conv_facts (hS : St X W0 w pb mb ml L) (hB : Tab w tb TT 7 n F) (hi : i < n) (htb : W0.heap.size ≤ tb) (hx : X tb) :
    St X W0 (w.setCell ⟨tb, i * 7 + 5, none⟩ (.int .u8 39)) pb mb ml L ∧ Tab (w.setCell ⟨tb, i * 7 + 5, none⟩ (.int .u8 39)) tb TT 7 n (upd F i 5 (.int .u8 39)) ∧ Oth X w (w.setCell ⟨tb, i * 7 + 5, none⟩ (.int .u8 39)) :=
  ⟨hS.setTab hB htb _ _, hB.set hi (by omega) _, Oth.set hx _ _⟩
set_option maxRecDepth 100000 in
set_option maxHeartbeats 2000000 in
theorem hs_yes (m : Nat) (hT : Tabs W0) (hS : St X W0 w pb mb ml L) (hB : Tab w tb TT 7 n F) (hi : i < n) (h1 : F i 1 = .string s) (h2 : F i 2 = .int .i32 0) (h3 : ∃ p : Int, F i 3 = .int .u32 p) (h5 : F i 5 = .int .u8 k) (hs : s.size ≤ 1048576) (hc : resB s.data.toList = false) (htb : W0.heap.size ≤ tb) (hx : X tb) (hL : Small L m) (hm : m ≤ 16777216) :
    Calls Tryd.prog 26 #[.pointer (some ⟨pb, 0, none⟩), .pointer (some ⟨tb, i * 7, none⟩)] w (HsP X W0 w tb n i pb mb ml L F s true) := by
  have HS := Lib.hid hS
  have HB := Lib.hid hB
  have HX := Lib.hid hx
  have HT := Lib.hid (St.tabs hT hS)
  have LW := Lib.hid (lower s w hs HT.out)
  have HL := Lib.hid (low_le s hs)
  have Hi := Lib.hid hi
  have H1 := Lib.hid h1
  have H2 := Lib.hid h2
  have H3 := Lib.hid h3
  have H5 := Lib.hid h5
  have c1 := hB.cell hi (j := 1) (by omega)
  rw [h1] at c1
  obtain ⟨hy, hmm⟩ := low_no s hc
  have f1 := fld_ref
  have f2 := fld_inner
  clear hT hS hB hi h1 h2 h3 h5 hs hc hx
  go_enter Tryd.func26, Tryd.ntmps26
  go_wp2_with (
    go_at_call 28
    refine LW.out.mono ?_
    rintro e w1 ⟨rfl, hb⟩
    obtain ⟨bm, m1, m0, m2, m3⟩ := (HT.out.below hb).2.2
    have lk := m3 w1 rfl (low s) HL.out
    rw [hmm] at lk
    have S1 := Lib.hid (HS.out.below hb)
    have B1 := Lib.hid (HB.out.below hb HB.out.lt)
    have O1 : Hid (Oth X w w1) := Lib.hid (Oth.below HS.out.top hb)
    have d5 : w1.cell? ⟨tb, i * 7 + 5, none⟩ = some (.int .u8 k) := by rw [B1.out.cell Hi.out (j := 5) (by omega), H5.out]
    have df := B1.out.frozen (i * 7 + 5)
    clear hb HS HB m3 c1)
  obtain ⟨hS2, hB2, hO2⟩ := conv_facts S1.out B1.out Hi.out htb HX.out
  have S2 := Lib.hid hS2
  have B2 := Lib.hid hB2
  have O2 := Lib.hid (O1.out.trans hO2)
  clear S1 B1 O1 d5 df hS2 hB2 hO2 lk m1 m0 m2
  generalize w1.setCell ⟨tb, i * 7 + 5, none⟩ (.int .u8 39) = W2 at *
  have d1 := B2.out.cell Hi.out (j := 1) (by omega)
  have d2 := B2.out.cell Hi.out (j := 2) (by omega)
  rw [show upd F i 5 (.int .u8 39) i 1 = .string s by simp [upd, H1.out]] at d1
  rw [show upd F i 5 (.int .u8 39) i 2 = .int .i32 0 by simp [upd, H2.out]] at d2
  go_region_with (
    go_at_call 29
    refine (sym_st s m (S2.out.drewN 1) hL hm).mono ?_
    rintro e w3 ⟨⟨l0, rfl⟩, S3, O3', O3⟩
    have S3 := Lib.hid S3
    have O3 : Hid (Oth X W2 w3) := Lib.hid (fun g hg => O3 g hg)
    have B3 : Hid (Tab w3 tb TT 7 n (upd F i 5 (.int .u8 39))) := Lib.hid (by
      obtain ⟨cs, hb, hr⟩ := B2.out
      exact ⟨cs, (O3' tb _ _ _ hb (by decide) (by decide) (by decide)).trans hb, hr⟩)
    clear O3'
    have d3f := B3.out.frozen (i * 7 + 3)
    have d3 : ∃ p : Int, w3.cell? ⟨tb, i * 7 + 3, none⟩ = some (.int .u32 p) := by
      obtain ⟨p, hp⟩ := H3.out
      exact ⟨p, by rw [B3.out.cell Hi.out (j := 3) (by omega)]; simp [upd, hp]⟩
    obtain ⟨p3, d3⟩ := d3)
  all_goals
    go_end0
    exact ⟨rfl, S3.out.setTab B3.out htb _ _, B3.out.set Hi.out (by omega) _, (O2.out.trans O3.out).trans (Oth.set HX.out _ _)⟩
end
end Go.Proofs.YtmfpgnedeonmiaaDoor.WA
