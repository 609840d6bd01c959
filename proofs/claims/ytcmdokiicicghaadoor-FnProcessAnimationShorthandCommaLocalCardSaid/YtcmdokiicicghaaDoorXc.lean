/- isInvalidAnimationName and zzIsReserved, walked. -/
import Derived.Test.YtcmdokiicicghaaDoorXb
import Derived.Deep.RegionHeld3
namespace Go.Proofs.YtcmdokiicicghaaDoor.WA
open Go.RowKit Go.Lib Go.Proofs.YtcmdokiicicghaaDoor.LO Go.Proofs.YtcmdokiicicghaaDoor.TB Go.Proofs.YtcmdokiicicghaaDoor.OW
set_option linter.unusedVariables false
def BP (b : Bool) (w : World) (e : Ending) (w' : World) : Prop := e = .returned (.bool b) ∧ Below w.heap.size w w'
def resB (l : List UInt8) : Bool := match FM l with
  | some f => decide (f ∈ words)
  | none => false
theorem resB_eq (l : List UInt8) : decide (toLowerD l ∈ words) = resB l := word_fold words words_ascii l
set_option maxRecDepth 100000 in
set_option maxHeartbeats 2000000 in
theorem reserved (s : ByteArray) (w : World) (hs : s.size ≤ 1048576) : Calls Tryd.prog 9 #[.string s] w (BP (resB s.data.toList) w) := by
  have F := Lib.hid (fold s w hs)
  unfold FoldP at F
  unfold resB
  cases hf : FM s.data.toList with
  | none =>
    rw [hf] at F
    clear hf
    dsimp only at F ⊢
    go_enter Tryd.func9, Tryd.ntmps9
    go_wp2_with fail
    refine F.out.mono ?_
    rintro e w1 ⟨rfl, hb⟩
    have BB := Lib.hid hb
    clear hb
    go_wp2_with fail
    go_ret
    exact ⟨rfl, BB.out⟩
  | some f =>
    rw [hf] at F
    clear hf
    dsimp only at F ⊢
    have hS : (⟨f.toArray⟩ : ByteArray).toList = f := by simp
    generalize (⟨f.toArray⟩ : ByteArray) = S at *
    have key : ∀ (D : Bool), decide (f ∈ words) = D → ((D = true ∧ (f = [110, 111, 110, 101] ∨ f = [105, 110, 105, 116, 105, 97, 108] ∨ f = [105, 110, 104, 101, 114, 105, 116] ∨ f = [117, 110, 115, 101, 116] ∨ f = [100, 101, 102, 97, 117, 108, 116] ∨ f = [114, 101, 118, 101, 114, 116] ∨ f = [114, 101, 118, 101, 114, 116, 45, 108, 97, 121, 101, 114])) ∨ (D = false ∧ f ≠ [110, 111, 110, 101] ∧ f ≠ [105, 110, 105, 116, 105, 97, 108] ∧ f ≠ [105, 110, 104, 101, 114, 105, 116] ∧ f ≠ [117, 110, 115, 101, 116] ∧ f ≠ [100, 101, 102, 97, 117, 108, 116] ∧ f ≠ [114, 101, 118, 101, 114, 116] ∧ f ≠ [114, 101, 118, 101, 114, 116, 45, 108, 97, 121, 101, 114])) → Calls Tryd.prog 9 #[.string s] w (BP D w) := by
      intro D hD h
      rcases h with ⟨rfl, h⟩ | ⟨rfl, h⟩
      · rcases h with rfl | rfl | rfl | rfl | rfl | rfl | rfl
        · have f0 : (S.toList == [110, 111, 110, 101]) = true := by rw [hS]; rfl
          clear hS hD
          go_enter Tryd.func9, Tryd.ntmps9
          go_wp2_with fail
          refine F.out.mono ?_
          rintro e w1 ⟨rfl, hb⟩
          have BB := Lib.hid hb
          clear hb
          go_wp2_with fail
          go_ret
          exact ⟨rfl, BB.out⟩
        · have f0 : (S.toList == [110, 111, 110, 101]) = false := by rw [hS]; rfl
          have f1 : (S.toList == [105, 110, 105, 116, 105, 97, 108]) = true := by rw [hS]; rfl
          clear hS hD
          go_enter Tryd.func9, Tryd.ntmps9
          go_wp2_with fail
          refine F.out.mono ?_
          rintro e w1 ⟨rfl, hb⟩
          have BB := Lib.hid hb
          clear hb
          go_wp2_with fail
          go_ret
          exact ⟨rfl, BB.out⟩
        · have f0 : (S.toList == [110, 111, 110, 101]) = false := by rw [hS]; rfl
          have f1 : (S.toList == [105, 110, 105, 116, 105, 97, 108]) = false := by rw [hS]; rfl
          have f2 : (S.toList == [105, 110, 104, 101, 114, 105, 116]) = true := by rw [hS]; rfl
          clear hS hD
          go_enter Tryd.func9, Tryd.ntmps9
          go_wp2_with fail
          refine F.out.mono ?_
          rintro e w1 ⟨rfl, hb⟩
          have BB := Lib.hid hb
          clear hb
          go_wp2_with fail
          go_ret
          exact ⟨rfl, BB.out⟩
        · have f0 : (S.toList == [110, 111, 110, 101]) = false := by rw [hS]; rfl
          have f1 : (S.toList == [105, 110, 105, 116, 105, 97, 108]) = false := by rw [hS]; rfl
          have f2 : (S.toList == [105, 110, 104, 101, 114, 105, 116]) = false := by rw [hS]; rfl
          have f3 : (S.toList == [117, 110, 115, 101, 116]) = true := by rw [hS]; rfl
          clear hS hD
          go_enter Tryd.func9, Tryd.ntmps9
          go_wp2_with fail
          refine F.out.mono ?_
          rintro e w1 ⟨rfl, hb⟩
          have BB := Lib.hid hb
          clear hb
          go_wp2_with fail
          go_ret
          exact ⟨rfl, BB.out⟩
        · have f0 : (S.toList == [110, 111, 110, 101]) = false := by rw [hS]; rfl
          have f1 : (S.toList == [105, 110, 105, 116, 105, 97, 108]) = false := by rw [hS]; rfl
          have f2 : (S.toList == [105, 110, 104, 101, 114, 105, 116]) = false := by rw [hS]; rfl
          have f3 : (S.toList == [117, 110, 115, 101, 116]) = false := by rw [hS]; rfl
          have f4 : (S.toList == [100, 101, 102, 97, 117, 108, 116]) = true := by rw [hS]; rfl
          clear hS hD
          go_enter Tryd.func9, Tryd.ntmps9
          go_wp2_with fail
          refine F.out.mono ?_
          rintro e w1 ⟨rfl, hb⟩
          have BB := Lib.hid hb
          clear hb
          go_wp2_with fail
          go_ret
          exact ⟨rfl, BB.out⟩
        · have f0 : (S.toList == [110, 111, 110, 101]) = false := by rw [hS]; rfl
          have f1 : (S.toList == [105, 110, 105, 116, 105, 97, 108]) = false := by rw [hS]; rfl
          have f2 : (S.toList == [105, 110, 104, 101, 114, 105, 116]) = false := by rw [hS]; rfl
          have f3 : (S.toList == [117, 110, 115, 101, 116]) = false := by rw [hS]; rfl
          have f4 : (S.toList == [100, 101, 102, 97, 117, 108, 116]) = false := by rw [hS]; rfl
          have f5 : (S.toList == [114, 101, 118, 101, 114, 116]) = true := by rw [hS]; rfl
          clear hS hD
          go_enter Tryd.func9, Tryd.ntmps9
          go_wp2_with fail
          refine F.out.mono ?_
          rintro e w1 ⟨rfl, hb⟩
          have BB := Lib.hid hb
          clear hb
          go_wp2_with fail
          go_ret
          exact ⟨rfl, BB.out⟩
        · have f0 : (S.toList == [110, 111, 110, 101]) = false := by rw [hS]; rfl
          have f1 : (S.toList == [105, 110, 105, 116, 105, 97, 108]) = false := by rw [hS]; rfl
          have f2 : (S.toList == [105, 110, 104, 101, 114, 105, 116]) = false := by rw [hS]; rfl
          have f3 : (S.toList == [117, 110, 115, 101, 116]) = false := by rw [hS]; rfl
          have f4 : (S.toList == [100, 101, 102, 97, 117, 108, 116]) = false := by rw [hS]; rfl
          have f5 : (S.toList == [114, 101, 118, 101, 114, 116]) = false := by rw [hS]; rfl
          have f6 : (S.toList == [114, 101, 118, 101, 114, 116, 45, 108, 97, 121, 101, 114]) = true := by rw [hS]; rfl
          clear hS hD
          go_enter Tryd.func9, Tryd.ntmps9
          go_wp2_with fail
          refine F.out.mono ?_
          rintro e w1 ⟨rfl, hb⟩
          have BB := Lib.hid hb
          clear hb
          go_wp2_with fail
          go_ret
          exact ⟨rfl, BB.out⟩
      · obtain ⟨h0, h1, h2, h3, h4, h5, h6⟩ := h
        have f0 : (S.toList == [110, 111, 110, 101]) = false := by rw [hS, beq_eq_false_iff_ne]; exact h0
        have f1 : (S.toList == [105, 110, 105, 116, 105, 97, 108]) = false := by rw [hS, beq_eq_false_iff_ne]; exact h1
        have f2 : (S.toList == [105, 110, 104, 101, 114, 105, 116]) = false := by rw [hS, beq_eq_false_iff_ne]; exact h2
        have f3 : (S.toList == [117, 110, 115, 101, 116]) = false := by rw [hS, beq_eq_false_iff_ne]; exact h3
        have f4 : (S.toList == [100, 101, 102, 97, 117, 108, 116]) = false := by rw [hS, beq_eq_false_iff_ne]; exact h4
        have f5 : (S.toList == [114, 101, 118, 101, 114, 116]) = false := by rw [hS, beq_eq_false_iff_ne]; exact h5
        have f6 : (S.toList == [114, 101, 118, 101, 114, 116, 45, 108, 97, 121, 101, 114]) = false := by rw [hS, beq_eq_false_iff_ne]; exact h6
        clear hS hD h0 h1 h2 h3 h4 h5 h6
        go_enter Tryd.func9, Tryd.ntmps9
        go_wp2_with fail
        refine F.out.mono ?_
        rintro e w1 ⟨rfl, hb⟩
        have BB := Lib.hid hb
        clear hb
        go_wp2_with fail
        go_ret
        exact ⟨rfl, BB.out⟩
    by_cases h : f ∈ words
    · refine key _ rfl (.inl ⟨by rw [decide_eq_true_eq]; exact h, ?_⟩)
      unfold words at h
      simpa only [List.mem_cons, List.not_mem_nil, or_false] using h
    · refine key _ rfl (.inr ⟨by rw [decide_eq_false_iff_not]; exact h, ?_⟩)
      unfold words at h
      simpa only [List.mem_cons, List.not_mem_nil, or_false, not_or] using h
theorem low_list (s : ByteArray) : (low s).toList = toLowerD s.data.toList := by unfold low; simp
theorem low_data (s : ByteArray) : (low s).data.toList = toLowerD s.data.toList := by unfold low; simp
theorem low_le (s : ByteArray) (hs : s.size ≤ 1048576) : (low s).size ≤ maxLen := by
  have h1 : (low s).size = (toLowerD s.data.toList).length := by unfold low; simp [ByteArray.size]
  rw [h1]
  have h2 := lowD_len s.data.toList
  rw [← Lib.size_eq] at h2
  unfold maxLen
  omega
set_option maxRecDepth 100000 in
set_option maxHeartbeats 2000000 in
theorem invalid (s : ByteArray) (w : World) (hs : s.size ≤ 1048576) (hT : Tabs w) : Calls Tryd.prog 23 #[.string s] w (BP (resB s.data.toList) w) := by
  rw [← resB_eq]
  have HT := Lib.hid hT
  have HL := Lib.hid (low_le s hs)
  have LL := Lib.hid (low_list s)
  have LD := Lib.hid (low_data s)
  have LW := Lib.hid (fun W hW => lower s W hs hW)
  clear hT
  by_cases hn : toLowerD s.data.toList = [110, 111, 110, 101]
  · have e : decide (toLowerD s.data.toList ∈ words) = true := by rw [hn]; decide
    have f0 : ((low s).toList == [110, 111, 110, 101]) = true := by rw [LL.out, hn]; rfl
    rw [e]
    clear e hn
    go_enter Tryd.func23, Tryd.ntmps23
    go_wp2_with fail
    refine (LW.out w HT.out).mono ?_
    rintro e w1 ⟨rfl, hb⟩
    have BB := Lib.hid hb
    clear hb
    go_wp2_with fail
    go_ret
    exact ⟨rfl, BB.out⟩
  · have f0 : ((low s).toList == [110, 111, 110, 101]) = false := by rw [LL.out, beq_eq_false_iff_ne]; exact hn
    have e : decide (toLowerD s.data.toList ∈ words) = decide ((low s).data.toList ∈ mapW) := by
      rw [LD.out]
      have : toLowerD s.data.toList ∈ words ↔ toLowerD s.data.toList ∈ mapW := by
        unfold words mapW
        rw [List.mem_cons]
        exact ⟨fun h => h.resolve_left hn, .inr⟩
      simp only [this]
    rw [e]
    clear e hn
    go_enter Tryd.func23, Tryd.ntmps23
    go_wp2_with fail
    refine (LW.out w HT.out).mono ?_
    rintro e w1 ⟨rfl, hb⟩
    have BB := Lib.hid hb
    obtain ⟨bm, m1, m0, m2, m3⟩ := (HT.out.below hb).2.2
    have lk := m3 w1 rfl (low s) HL.out
    clear hb m3
    generalize decide ((low s).data.toList ∈ mapW) = D at *
    go_wp2_with fail
    all_goals
      go_ret
      exact ⟨rfl, BB.out⟩
set_option maxRecDepth 100000 in
theorem zz (s : ByteArray) (w : World) (hs : s.size ≤ 1048576) (hT : Tabs w) : Calls Tryd.prog 8 #[.string s] w (BP (resB s.data.toList) w) := by
  have H := Lib.hid (invalid s w hs hT)
  clear hT
  go_enter Tryd.func8, Tryd.ntmps8
  go_wp2_with fail
  refine H.out.mono ?_
  rintro e w1 ⟨rfl, hb⟩
  have BB := Lib.hid hb
  clear hb
  go_wp2_with fail
  go_ret
  exact ⟨rfl, BB.out⟩
def SomeBool (w : World) (e : Ending) (w' : World) : Prop := ∃ b : Bool, e = .returned (.bool b) ∧ w = w'
set_option maxRecDepth 100000 in
theorem bytes3 (s : ByteArray) (w : World) (hs : s.size ≤ maxLen) : Calls Tryd.prog 7 #[.string s] w (SomeBool w) := by
  unfold maxLen at hs
  by_cases h : s.size ≤ 1048576
  all_goals
    go_enter Tryd.func7, Tryd.ntmps7
    go_wp2
    go_ret
    exact ⟨_, rfl, rfl⟩
set_option maxRecDepth 100000 in
set_option maxHeartbeats 2000000 in
theorem law3 (s : ByteArray) (w : World) (hs : s.size ≤ maxLen) (hT : Tabs w) :
    Calls Tryd.prog 3 #[.string s] w fun e w' => e = .returned (.bool true) ∧ Below w.heap.size w w' := by
  have H4 := Lib.hid (bytes3 s w hs)
  have HT := Lib.hid hT
  unfold maxLen at hs
  clear hT
  by_cases hbig : 1048576 < s.size
  · go_enter Tryd.func3, Tryd.ntmps3
    go_wp2_with fail
    refine H4.out.mono ?_
    rintro e w' ⟨b1, rfl, rfl⟩
    cases b1
    all_goals
      go_wp2_with fail
      go_ret
      exact ⟨rfl, Below.refl _ _⟩
  have hs2 : s.size ≤ 1048576 := by omega
  have Z := Lib.hid (zz s w hs2 HT.out)
  have R := Lib.hid (fun W => reserved s W hs2)
  generalize resB s.data.toList = D at *
  go_enter Tryd.func3, Tryd.ntmps3
  go_wp2_with fail
  refine H4.out.mono ?_
  rintro e w' ⟨b1, rfl, rfl⟩
  cases b1
  · go_wp2_with fail
    go_ret
    exact ⟨rfl, Below.refl _ _⟩
  go_wp2_with fail
  refine Z.out.mono ?_
  rintro e w1 ⟨rfl, hb⟩
  have BB := Lib.hid hb
  clear hb
  go_wp2_with fail
  refine (R.out w1).mono ?_
  rintro e w2 ⟨rfl, hb⟩
  have B2 := Lib.hid (BB.out.trans (hb.mono BB.out.size))
  clear hb
  go_wp2_with fail
  go_ret
  exact ⟨by cases D <;> rfl, B2.out⟩
end Go.Proofs.YtcmdokiicicghaaDoor.WA
