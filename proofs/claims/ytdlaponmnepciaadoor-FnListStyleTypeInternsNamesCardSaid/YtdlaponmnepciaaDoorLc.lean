/- The small functions of n011_231, walked. -/
import Derived.Test.YtdlaponmnepciaaDoorLb
import Derived.Test.YtdlaponmnepciaaDoorKb
import Derived.Test.YtdlaponmnepciaaDoorKc
namespace Go.Proofs.YtdlaponmnepciaaDoor.WA
open Go Go.RowKit Go.Lib Go.Proofs.YtdlaponmnepciaaDoor.MP Go.Proofs.YtdlaponmnepciaaDoor.SY Go.Proofs.YtdlaponmnepciaaDoor.LO Go.Proofs.YtdlaponmnepciaaDoor.TB Go.Proofs.YtdlaponmnepciaaDoor.OW
set_option linter.unusedVariables false
def KindP (k : Int) (w : World) (e : Ending) (w' : World) : Prop := e = .returned (.int .u8 k) ∧ w = w'
set_option maxRecDepth 100000 in
theorem kind7 (c : Int) (h0 : 0 ≤ c) (h1 : c ≤ 255) : ∃ k : Int, ∀ w, Calls Tryd.prog 7 #[.int .u8 c] w (KindP k w) := by
  have hc : c % 8 = 3 ∨ c % 8 = 4 ∨ c % 8 = 5 ∨ c % 8 = 6 ∨ (¬ c % 8 = 3 ∧ ¬ c % 8 = 4 ∧ ¬ c % 8 = 5 ∧ ¬ c % 8 = 6) := by omega
  rcases hc with hc | hc | hc | hc | ⟨a1, a2, a3, a4⟩
  · refine ⟨36, fun w => ?_⟩
    go_enter Tryd.func7, Tryd.ntmps7
    go_wp2_with fail
    go_ret
    exact ⟨rfl, rfl⟩
  · refine ⟨37, fun w => ?_⟩
    go_enter Tryd.func7, Tryd.ntmps7
    go_wp2_with fail
    go_ret
    exact ⟨rfl, rfl⟩
  · refine ⟨27, fun w => ?_⟩
    go_enter Tryd.func7, Tryd.ntmps7
    go_wp2_with fail
    go_ret
    exact ⟨rfl, rfl⟩
  · refine ⟨39, fun w => ?_⟩
    go_enter Tryd.func7, Tryd.ntmps7
    go_wp2_with fail
    go_ret
    exact ⟨rfl, rfl⟩
  · have b1 : (c % 8 == 3) = false := beq_eq_false_iff_ne.2 a1
    have b2 : (c % 8 == 4) = false := beq_eq_false_iff_ne.2 a2
    have b3 : (c % 8 == 5) = false := beq_eq_false_iff_ne.2 a3
    have b4 : (c % 8 == 6) = false := beq_eq_false_iff_ne.2 a4
    clear a1 a2 a3 a4
    refine ⟨29, fun w => ?_⟩
    go_enter Tryd.func7, Tryd.ntmps7
    go_wp2_with fail
    go_ret
    exact ⟨rfl, rfl⟩
set_option maxRecDepth 100000 in
theorem want13 (ml : Bool) (n : Int) (w : World) : Calls Tryd.prog 13 #[.bool ml, .int .i64 n] w (IntIs (if ml then n else 0) w) := by
  cases ml
  all_goals
    go_enter Tryd.func13, Tryd.ntmps13
    go_wp2_with fail
    go_ret
    exact ⟨rfl, rfl⟩
def SomeBool (w : World) (e : Ending) (w' : World) : Prop := ∃ b : Bool, e = .returned (.bool b) ∧ w = w'
set_option maxRecDepth 100000 in
theorem bytes5 (c pay : Int) (ml : Bool) (s : ByteArray) (w : World) (hs : s.size ≤ maxLen) : Calls Tryd.prog 5 #[.int .u8 c, .string s, .int .u32 pay, .bool ml] w (SomeBool w) := by
  unfold maxLen at hs
  by_cases h : s.size ≤ 1048576
  all_goals
    go_enter Tryd.func5, Tryd.ntmps5
    go_wp2
    go_ret
    exact ⟨_, rfl, rfl⟩
set_option maxRecDepth 100000 in
theorem bytes14 (a b : ByteArray) (ml : Bool) (w : World) (ha : a.size ≤ maxLen) (hb : b.size ≤ maxLen) : Calls Tryd.prog 14 #[.string a, .string b, .bool ml] w (SomeBool w) := by
  unfold maxLen at ha hb
  go_enter Tryd.func14, Tryd.ntmps14
  go_wp2
  all_goals
    go_ret
    exact ⟨_, rfl, rfl⟩
set_option maxRecDepth 100000 in
set_option maxHeartbeats 2000000 in
theorem isCust (s : ByteArray) (w : World) (hs : s.size ≤ 1048576) : Calls Tryd.prog 9 #[.string s] w (BP (cust s) w) := by
  have F := Lib.hid (fold s w hs)
  unfold FoldP at F
  have W := Lib.hid (fun w => wide (FK s.data.toList) w)
  have P := Lib.hid (fun w => pred (FK s.data.toList) w)
  have hw : decide (FK s.data.toList ∈ wideW) = decide (toLowerD s.data.toList ∈ wideW) := FK_words wideW (fun v hv => allW_ascii v (List.mem_cons_of_mem _ (List.mem_append_left _ hv))) _
  have hp : decide (FK s.data.toList ∈ predW) = decide (toLowerD s.data.toList ∈ predW) := FK_words predW (fun v hv => allW_ascii v (List.mem_cons_of_mem _ (List.mem_append_right _ hv))) _
  have hn : (FK s.data.toList = noneW) ↔ (toLowerD s.data.toList = noneW) := FK_word noneW (allW_ascii noneW (List.mem_cons_self ..)) _
  rw [hw] at W
  rw [hp] at P
  unfold cust
  by_cases h1 : toLowerD s.data.toList = noneW
  · have e1 : (FK s.data.toList == [110, 111, 110, 101]) = true := by rw [hn.2 h1]; rfl
    rw [decide_eq_true h1]
    clear hw hp hn h1
    go_enter Tryd.func9, Tryd.ntmps9
    go_wp2_with (
      go_at_call 16
      refine F.out.mono ?_
      rintro e w1 ⟨rfl, hb⟩
      have B1 := Lib.hid hb
      clear hb)
    go_ret
    exact ⟨rfl, B1.out⟩
  · have e1 : (FK s.data.toList == [110, 111, 110, 101]) = false := beq_eq_false_iff_ne.2 (fun h => h1 (hn.1 h))
    rw [decide_eq_false h1]
    clear hw hp hn h1
    generalize decide (toLowerD s.data.toList ∈ wideW) = D1 at *
    generalize decide (toLowerD s.data.toList ∈ predW) = D2 at *
    cases D1
    all_goals cases D2
    all_goals
      go_enter Tryd.func9, Tryd.ntmps9
      go_wp2_with (first
        | (go_at_call 16
           refine F.out.mono ?_
           rintro e w1 ⟨rfl, hb⟩
           have B1 := Lib.hid hb
           clear hb)
        | (go_at_call 17; refine (W.out _).mono ?_; rintro e w2 ⟨rfl, rfl⟩)
        | (go_at_call 18; refine (P.out _).mono ?_; rintro e w2 ⟨rfl, rfl⟩))
      go_ret
      exact ⟨rfl, B1.out⟩
set_option maxRecDepth 100000 in
theorem zz8 (W0 w : World) (tb pb mb : Nat) (ml : Bool) (L : List Ent) (s : ByteArray) (pay k : Int) (h : Calls Tryd.prog 15 #[.pointer (some ⟨pb, 0, none⟩), .pointer (some ⟨tb, 0, none⟩)] w (fun e w' => LstP W0 w tb pb mb ml L s pay k e w')) :
    Calls Tryd.prog 8 #[.pointer (some ⟨pb, 0, none⟩), .pointer (some ⟨tb, 0, none⟩)] w (LstP W0 w tb pb mb ml L s pay k) := by
  have H := Lib.hid h
  clear h
  go_enter Tryd.func8, Tryd.ntmps8
  go_wp2_with (
    go_at_call 15
    refine H.out.mono ?_
    rintro e w1 ⟨rfl, h1, h2, h3⟩
    have H1 := Lib.hid h1
    have H2 := Lib.hid h2
    have H3 := Lib.hid h3
    clear h1 h2 h3)
  go_end0
  exact ⟨rfl, H1.out, H2.out, H3.out⟩
/-- The list-style type, whatever the token. -/
theorem lst8 (W0 w : World) (tb pb mb : Nat) (ml : Bool) (L : List Ent) (s : ByteArray) (pay k : Int) (n : Nat) (hW : Tabs W0) (hs : s.size ≤ 1048576) (hS : St W0 w pb mb ml L) (hT : TokB w tb s pay k) (hn : Small L n) (hn2 : n ≤ 16777216) (htb : W0.heap.size ≤ tb) :
    Calls Tryd.prog 8 #[.pointer (some ⟨pb, 0, none⟩), .pointer (some ⟨tb, 0, none⟩)] w
      (if (k == 29) = true ∧ cust s = true then LstP W0 w tb pb mb ml (tick L s) s (spot L s) 39 else LstP W0 w tb pb mb ml L s pay k) := by
  by_cases h1 : k = 29
  · subst h1
    cases hc : cust s
    · exact zz8 W0 w tb pb mb ml L s pay 29 (lst_id_no W0 w tb pb mb ml L s pay hW hs hS hT hc)
    · exact zz8 W0 w tb pb mb ml _ s _ 39 (lst_id W0 w tb pb mb ml L s pay n hW hs hS hT hn hn2 hc htb)
  · rw [if_neg (fun h => h1 (by simpa using h.1))]
    exact zz8 W0 w tb pb mb ml L s pay k (lst_no W0 w tb pb mb ml L s pay k hS hT (beq_eq_false_iff_ne.2 h1))
end Go.Proofs.YtdlaponmnepciaaDoor.WA
