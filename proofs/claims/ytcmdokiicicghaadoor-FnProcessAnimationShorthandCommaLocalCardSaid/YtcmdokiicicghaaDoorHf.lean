/- FnProcessAnimationNameExact: the walk. -/
import Derived.Test.YtcmdokiicicghaaDoorHe
namespace Go.Proofs.YtcmdokiicicghaaDoor.WA
open Go Go.RowKit Go.Lib Go.Proofs.YtcmdokiicicghaaDoor.MP Go.Proofs.YtcmdokiicicghaaDoor.SY Go.Proofs.YtcmdokiicicghaaDoor.LO Go.Proofs.YtcmdokiicicghaaDoor.TB Go.Proofs.YtcmdokiicicghaaDoor.OW
set_option linter.unusedVariables false
section
variable {W0 w : World} {tb n pb mb : Nat} {ml : Bool} {K : Nat → Int} {T : Nat → ByteArray}
set_option maxRecDepth 100000 in
theorem zzPass (hT : Tabs W0) (hS : St W0 w pb mb ml []) (hB : Tab w tb TT 7 n (tkc K T (fun _ => 0))) (htb : W0.heap.size ≤ tb) (hs : ∀ i, i < n → (T i).size ≤ 1048576) (hn : n ≤ 4096) :
    Calls Tryd.prog 16 #[.pointer (some ⟨pb, 0, none⟩), .slice (some ⟨tb, 0, none⟩) n n] w (PassP W0 w tb n pb mb ml (cnv ml K T) K T) := by
  have H := Lib.hid (passN hT hS hB htb hs hn)
  clear hT hS hB hs
  go_enter Tryd.func16, Tryd.ntmps16
  go_wp2_with (
    go_at_call 27
    refine H.out.mono ?_
    rintro e w1 ⟨rfl, h1, h2, h3⟩
    have H1 := Lib.hid h1
    have H2 := Lib.hid h2
    have H3 := Lib.hid h3
    clear h1 h2 h3)
  go_end0
  exact ⟨rfl, H1.out, H2.out, H3.out⟩
end
def FullTabs (w : World) : Prop := Tabs w ∧ GR w
def Yes (w : World) (e : Ending) (w' : World) : Prop := e = .returned (.bool true) ∧ Below w.heap.size w w'
set_option maxRecDepth 100000 in
set_option maxHeartbeats 4000000 in
theorem lawN (A : Option Addr) (n c : Nat) (z : Nat → Int) (B : Option Addr) (m d : Nat) (T : Nat → ByteArray) (ml : Bool) (w : World) (r : BR w A n z) (hA : A = none → n = 0) (hn : n ≤ maxLen) (wz : ∀ i, i < n → (Lit.int .u8 (z i)).wf = true)
    (r2 : SR w B m T) (hB : B = none → m = 0) (hm : m ≤ maxLen) (wT : ∀ i, i < m → (T i).size ≤ maxLen) (hT : FullTabs w) :
    Calls Tryd.prog 5 #[.slice A n c, .slice B m d, .bool ml] w (Yes w) := by
  have HB1 := Lib.hid (bytesN A B n c m d ml T w r2 (by unfold maxLen at hn; omega) (by unfold maxLen at hm; omega))
  have R := Lib.hid r
  have R2 := Lib.hid r2
  have HZ := Lib.hid (fun i hi => (show 0 ≤ z i ∧ z i ≤ 255 by have := wz i hi; simp [Lit.wf, IntKind.min, IntKind.max, IntKind.signed, IntKind.bits] at this; omega))
  have HT := Lib.hid hT
  clear r hA hn wz r2 hB hm wT hT
  go_enter Tryd.func5, Tryd.ntmps5
  go_wp2_with fail
  refine HB1.out.mono ?_
  rintro e w' ⟨b1, rfl, rfl, hb1⟩
  cases b1
  · clear hb1
    go_wp2_with fail
    go_ret
    exact ⟨rfl, Below.refl _ _⟩
  obtain ⟨hn1, hm1, hts⟩ := hb1 rfl
  have HTS := Lib.hid hts
  clear hb1 hts HB1
  go_wp2_with fail
  refine (bigF A B n c m d T w R2.out hn1 hm1 HTS.out).mono ?_
  rintro e w' ⟨b2, rfl, rfl, hb2⟩
  cases b2
  · obtain ⟨hn2, hm2⟩ := hb2 rfl
    clear hb2
    obtain ⟨p, hp⟩ : ∃ p, min n m = p := ⟨_, rfl⟩
    have hpp : p ≤ n ∧ p ≤ m ∧ p ≤ 4096 := by omega
    obtain ⟨hpn, hpm, hp4⟩ := hpp
    have HP := Lib.hid hp
    clear hp
    go_wp2_with fail
    refine (buildF A B n c m d p z T w R.out R2.out HZ.out HP.out hp4).mono ?_
    rintro e w1 ⟨g, rfl, hg, hgs, hb⟩
    have B1 := Lib.hid hb
    have G1 := Lib.hid hg
    clear hb hg
    go_wp2_with fail
    refine (new_st ml HT.out.2 B1.out).mono ?_
    rintro e w2 ⟨pb, mb, rfl, hS, hb2, -⟩
    have S2 := Lib.hid hS
    have G2 := Lib.hid (G1.out.below hb2 G1.out.lt)
    clear hS hb2 B1 G1
    go_wp2_with fail
    refine (zzPass HT.out.1 S2.out G2.out hgs (fun i hi => HTS.out i (by omega)) hp4).mono ?_
    rintro e w3 ⟨rfl, hS, hG, -⟩
    have S3 := Lib.hid hS
    have G3 := Lib.hid hG
    clear hS hG S2 G2
    have R3 := Lib.hid (R.out.below S3.out.bel)
    have R23 := Lib.hid (R2.out.below S3.out.bel)
    go_wp2_with fail
    refine (modelF A B n c m d p ml z T w3 R3.out R23.out HZ.out HTS.out HP.out hp4).mono ?_
    rintro e w4 ⟨gc, rfl, hC, -, hb⟩
    have S4 := Lib.hid (S3.out.below hb)
    have G4 := Lib.hid (G3.out.below hb G3.out.lt)
    have C4 := Lib.hid hC
    have R4 := Lib.hid (R3.out.below hb)
    have R24 := Lib.hid (R23.out.below hb)
    clear hC hb S3 G3 R3 R23
    go_wp2_with fail
    refine (checkF w w4 g gc pb mb p n c m d A B ml z T (cnv ml (kz z) T) S4.out G4.out C4.out R4.out R24.out HZ.out hpn hpm hp4).mono ?_
    rintro e w5 ⟨rfl, hb⟩
    have B5 := Lib.hid (S4.out.bel.trans (hb.mono S4.out.bel.size))
    clear hb
    go_wp2_with fail
    go_ret
    exact ⟨rfl, B5.out⟩
  · clear hb2
    go_wp2_with fail
    go_ret
    exact ⟨rfl, Below.refl _ _⟩
/-- What the variables read as, in one row. -/
def Flat (w : World) : Prop := CaseVar 2 caseA w ∧ Utf8Tabs 4 5 w ∧ KW w ∧ GR w
theorem lawN' (A : Option Addr) (n c : Nat) (z : Nat → Int) (B : Option Addr) (m d : Nat) (T : Nat → ByteArray) (ml : Bool) (w : World) (r : BR w A n z) (hA : A = none → n = 0) (hn : n ≤ maxLen) (wz : ∀ i, i < n → (Lit.int .u8 (z i)).wf = true)
    (r2 : SR w B m T) (hB : B = none → m = 0) (hm : m ≤ maxLen) (wT : ∀ i, i < m → (T i).size ≤ maxLen) (hT : Flat w) :
    Calls Tryd.prog 5 #[.slice A n c, .slice B m d, .bool ml] w (Yes w) :=
  lawN A n c z B m d T ml w r hA hn wz r2 hB hm wT ⟨⟨hT.1, hT.2.1, hT.2.2.1⟩, hT.2.2.2⟩
end Go.Proofs.YtcmdokiicicghaaDoor.WA
