/- handleSingleAnimationName and processAnimationName, walked. -/
import Derived.Test.YtcmdokiicicghaaDoorSt
import Derived.Test.YtcmdokiicicghaaDoorXc
namespace Go.Proofs.YtcmdokiicicghaaDoor.WA
open Go Go.RowKit Go.Lib Go.Proofs.YtcmdokiicicghaaDoor.MP Go.Proofs.YtcmdokiicicghaaDoor.SY Go.Proofs.YtcmdokiicicghaaDoor.LO Go.Proofs.YtcmdokiicicghaaDoor.TB Go.Proofs.YtcmdokiicicghaaDoor.OW
set_option linter.unusedVariables false
/-- Whether a token becomes a symbol. -/
def cv (ml : Bool) (k : Int) (s : ByteArray) : Bool := if k = 29 ∨ (k = 36 ∧ ml = false) then !resB s.data.toList else true
def HsP (W0 w : World) (tb n i pb mb : Nat) (ml : Bool) (L : List Ent) (F : Nat → Nat → Value) (s : ByteArray) (c : Bool) (e : Ending) (w' : World) : Prop :=
  e = .returned (.tuple #[]) ∧ St W0 w' pb mb ml (if c then tick L s else L) ∧ Tab w' tb TT 7 n (if c then upd (upd F i 5 (.int .u8 39)) i 3 (.int .u32 (spot L s : Int)) else F) ∧ Oth tb w w'
section
variable {W0 w : World} {tb n i pb mb : Nat} {ml : Bool} {L : List Ent} {F : Nat → Nat → Value} {s : ByteArray} {k : Int}
theorem inval_st (hT : Tabs W0) (hS : St W0 w pb mb ml L) (hs : s.size ≤ 1048576) : Calls Tryd.prog 23 #[.string s] w (BP (resB s.data.toList) w) := by
  have h : Tabs w := ⟨CaseVar_below hT.1 (hS.bel.mono (Nat.le_refl _)), Utf8Tabs_below hT.2.1 hS.bel, hT.2.2.below hS.bel⟩
  exact invalid s w hs h
set_option maxRecDepth 100000 in
set_option maxHeartbeats 2000000 in
theorem hs_no (hT : Tabs W0) (hS : St W0 w pb mb ml L) (hB : Tab w tb TT 7 n F) (hi : i < n) (h1 : F i 1 = .string s) (h5 : F i 5 = .int .u8 k) (hs : s.size ≤ 1048576) (hk : k = 29 ∨ (k = 36 ∧ ml = false)) (hr : resB s.data.toList = true) :
    Calls Tryd.prog 36 #[.pointer (some ⟨pb, 0, none⟩), .pointer (some ⟨tb, i * 7, none⟩)] w (HsP W0 w tb n i pb mb ml L F s false) := by
  have HS := Lib.hid hS
  have HB := Lib.hid hB
  have HI := Lib.hid (inval_st hT hS hs)
  rw [hr] at HI
  have c5 := hB.cell hi (j := 5) (by omega)
  have c1 := hB.cell hi (j := 1) (by omega)
  rw [h5] at c5
  rw [h1] at c1
  have c54 : w.cell? ⟨pb, 54, none⟩ = some (.bool ml) := by obtain ⟨f, sv, lv, P⟩ := hS.tab; rw [P.par.cell (by omega), P.f54]
  clear hT hS hB hi h1 h5 hs hr
  rcases hk with rfl | ⟨rfl, rfl⟩
  all_goals
    go_enter Tryd.func36, Tryd.ntmps36
    go_wp2_with (
      go_at_call 23
      refine HI.out.mono ?_
      rintro e w1 ⟨rfl, hb⟩
      have BB := Lib.hid hb
      clear hb)
    go_end0
    refine ⟨rfl, HS.out.below BB.out, ?_, Oth.below BB.out⟩
    exact HB.out.below BB.out HB.out.lt
/-- The converting half, from the store of the kind on. -/
theorem conv_facts (hS : St W0 w pb mb ml L) (hB : Tab w tb TT 7 n F) (hi : i < n) (htb : W0.heap.size ≤ tb) :
    St W0 (w.setCell ⟨tb, i * 7 + 5, none⟩ (.int .u8 39)) pb mb ml L ∧ Tab (w.setCell ⟨tb, i * 7 + 5, none⟩ (.int .u8 39)) tb TT 7 n (upd F i 5 (.int .u8 39)) ∧ Oth tb w (w.setCell ⟨tb, i * 7 + 5, none⟩ (.int .u8 39)) :=
  ⟨hS.setTab hB htb _ _, hB.set hi (by omega) _, Oth.set _ _⟩
set_option maxRecDepth 100000 in
set_option maxHeartbeats 2000000 in
theorem hs_yes (m : Nat) (hT : Tabs W0) (hS : St W0 w pb mb ml L) (hB : Tab w tb TT 7 n F) (hi : i < n) (h1 : F i 1 = .string s) (h2 : F i 2 = .int .i32 0) (h3 : ∃ p : Int, F i 3 = .int .u32 p) (h5 : F i 5 = .int .u8 k) (hs : s.size ≤ 1048576) (hk : k = 29 ∨ k = 36) (hc : cv ml k s = true) (htb : W0.heap.size ≤ tb) (hL : Small L m) (hm : m ≤ 16777216) :
    Calls Tryd.prog 36 #[.pointer (some ⟨pb, 0, none⟩), .pointer (some ⟨tb, i * 7, none⟩)] w (HsP W0 w tb n i pb mb ml L F s true) := by
  have HS := Lib.hid hS
  have HB := Lib.hid hB
  have HI := Lib.hid (inval_st hT hS hs)
  have Hi := Lib.hid hi
  have H1 := Lib.hid h1
  have H2 := Lib.hid h2
  have H3 := Lib.hid h3
  have c5 := hB.cell hi (j := 5) (by omega)
  have c1 := hB.cell hi (j := 1) (by omega)
  have cf := fun j => hB.frozen j
  rw [h5] at c5
  rw [h1] at c1
  have c54 : w.cell? ⟨pb, 54, none⟩ = some (.bool ml) := by obtain ⟨f, sv, lv, P⟩ := hS.tab; rw [P.par.cell (by omega), P.f54]
  have f1 := fld_ref
  have f2 := fld_inner
  have hcase : (k = 29 ∧ resB s.data.toList = false) ∨ (k = 36 ∧ ml = false ∧ resB s.data.toList = false) ∨ (k = 36 ∧ ml = true) := by
    unfold cv at hc
    rcases hk with rfl | rfl
    · left
      simpa using hc
    · right
      cases ml
      · left
        simpa using hc
      · right
        exact ⟨rfl, rfl⟩
  clear hT hS hB hi h1 h2 h3 h5 hs hc hk
  rcases hcase with ⟨rfl, hr⟩ | ⟨rfl, rfl, hr⟩ | ⟨rfl, rfl⟩
  iterate 2
    · rw [hr] at HI
      clear hr
      go_enter Tryd.func36, Tryd.ntmps36
      go_wp2_with (
        go_at_call 23
        refine HI.out.mono ?_
        rintro e w1 ⟨rfl, hb⟩
        have S1 := Lib.hid (HS.out.below hb)
        have B1 := Lib.hid (HB.out.below hb HB.out.lt)
        have O1 : Hid (Oth tb w w1) := Lib.hid (Oth.below hb)
        have d5 := B1.out.cell Hi.out (j := 5) (by omega)
        have df := B1.out.frozen (i * 7 + 5)
        clear hb HS HB HI c5 c1 c54 cf)
      obtain ⟨hS2, hB2, hO2⟩ := conv_facts S1.out B1.out Hi.out htb
      have S2 := Lib.hid hS2
      have B2 := Lib.hid hB2
      have O2 := Lib.hid (O1.out.trans hO2)
      clear S1 B1 O1 d5 df hS2 hB2 hO2
      generalize w1.setCell ⟨tb, i * 7 + 5, none⟩ (.int .u8 39) = W2 at *
      have d1 := B2.out.cell Hi.out (j := 1) (by omega)
      have d2 := B2.out.cell Hi.out (j := 2) (by omega)
      rw [show upd F i 5 (.int .u8 39) i 1 = .string s by simp [upd, H1.out]] at d1
      rw [show upd F i 5 (.int .u8 39) i 2 = .int .i32 0 by simp [upd, H2.out]] at d2
      go_region_with (
        go_at_call 43
        refine (sym_st s m (S2.out.drewN 1) hL hm).mono ?_
        rintro e w3 ⟨⟨l0, rfl⟩, S3, O3⟩
        have S3 := Lib.hid S3
        have O3 : Hid (Oth tb W2 w3) := Lib.hid (fun g c ty fr hg h1 h2 h3 _ => O3 g c ty fr hg h1 h2 h3)
        have B3 : Hid (Tab w3 tb TT 7 n (upd F i 5 (.int .u8 39))) := Lib.hid (by
          obtain ⟨cs, hb, hr⟩ := B2.out
          rename_i O3'
          exact ⟨cs, (O3' tb _ _ _ hb (by decide) (by decide) (by decide)).trans hb, hr⟩)
        have d3f := B3.out.frozen (i * 7 + 3)
        have d3 : ∃ p : Int, w3.cell? ⟨tb, i * 7 + 3, none⟩ = some (.int .u32 p) := by
          obtain ⟨p, hp⟩ := H3.out
          exact ⟨p, by rw [B3.out.cell Hi.out (j := 3) (by omega)]; simp [upd, hp]⟩
        obtain ⟨p3, d3⟩ := d3)
      all_goals
        go_end0
        exact ⟨rfl, S3.out.setTab B3.out htb _ _, B3.out.set Hi.out (by omega) _, (O2.out.trans O3.out).trans (Oth.set _ _)⟩
  · go_enter Tryd.func36, Tryd.ntmps36
    go_wp2_with fail
    obtain ⟨hS2, hB2, hO2⟩ := conv_facts HS.out HB.out Hi.out htb
    have S2 := Lib.hid hS2
    have B2 := Lib.hid hB2
    have O2 := Lib.hid hO2
    clear HS HB HI c5 c1 c54 cf hS2 hB2 hO2
    generalize w.setCell ⟨tb, i * 7 + 5, none⟩ (.int .u8 39) = W2 at *
    have d1 := B2.out.cell Hi.out (j := 1) (by omega)
    have d2 := B2.out.cell Hi.out (j := 2) (by omega)
    rw [show upd F i 5 (.int .u8 39) i 1 = .string s by simp [upd, H1.out]] at d1
    rw [show upd F i 5 (.int .u8 39) i 2 = .int .i32 0 by simp [upd, H2.out]] at d2
    go_region_with (
      go_at_call 43
      refine (sym_st s m (S2.out.drewN 1) hL hm).mono ?_
      rintro e w3 ⟨⟨l0, rfl⟩, S3, O3⟩
      have S3 := Lib.hid S3
      have O3 : Hid (Oth tb W2 w3) := Lib.hid (fun g c ty fr hg h1 h2 h3 _ => O3 g c ty fr hg h1 h2 h3)
      have B3 : Hid (Tab w3 tb TT 7 n (upd F i 5 (.int .u8 39))) := Lib.hid (by
        obtain ⟨cs, hb, hr⟩ := B2.out
        rename_i O3'
        exact ⟨cs, (O3' tb _ _ _ hb (by decide) (by decide) (by decide)).trans hb, hr⟩)
      have d3f := B3.out.frozen (i * 7 + 3)
      have d3 : ∃ p : Int, w3.cell? ⟨tb, i * 7 + 3, none⟩ = some (.int .u32 p) := by
        obtain ⟨p, hp⟩ := H3.out
        exact ⟨p, by rw [B3.out.cell Hi.out (j := 3) (by omega)]; simp [upd, hp]⟩
      obtain ⟨p3, d3⟩ := d3)
    all_goals
      go_end0
      exact ⟨rfl, S3.out.setTab B3.out htb _ _, B3.out.set Hi.out (by omega) _, (O2.out.trans O3.out).trans (Oth.set _ _)⟩
end
end Go.Proofs.YtcmdokiicicghaaDoor.WA
