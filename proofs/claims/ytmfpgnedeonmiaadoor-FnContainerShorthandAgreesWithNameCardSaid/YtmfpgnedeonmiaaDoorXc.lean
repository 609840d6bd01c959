/- zzReserved, walked. -/
import Derived.Test.YtmfpgnedeonmiaaDoorXb
import Derived.Deep.RegionHeld3
namespace Go.Proofs.YtmfpgnedeonmiaaDoor.WA
open Go.RowKit Go.Lib Go.Proofs.YtmfpgnedeonmiaaDoor.LO Go.Proofs.YtmfpgnedeonmiaaDoor.TB Go.Proofs.YtmfpgnedeonmiaaDoor.OW
set_option linter.unusedVariables false
def BP (b : Bool) (w : World) (e : Ending) (w' : World) : Prop := e = .returned (.bool b) ∧ Below w.heap.size w w'
def resB (l : List UInt8) : Bool := match FM l with
  | some f => decide (f ∈ words)
  | none => false
theorem resB_eq (l : List UInt8) : decide (toLowerD l ∈ words) = resB l := word_fold words words_ascii l
set_option maxRecDepth 100000 in
set_option maxHeartbeats 2000000 in
theorem reserved (s : ByteArray) (w : World) (hs : s.size ≤ 1048576) : Calls Tryd.prog 11 #[.string s] w (BP (resB s.data.toList) w) := by
  have F := Lib.hid (fold s w hs)
  unfold FoldP at F
  unfold resB
  cases hf : FM s.data.toList with
  | none =>
    rw [hf] at F
    clear hf
    dsimp only at F ⊢
    go_enter Tryd.func11, Tryd.ntmps11
    go_wp2_with fail
    refine F.out.mono ?_
    rintro e w1 ⟨rfl, hb⟩
    have BB := Lib.hid hb
    clear hb
    go_wp2_with fail
    go_ret
    exact ⟨rfl, BB.out⟩
  | some f =>
    rw [hf] at F
    clear hf
    dsimp only at F ⊢
    have hS : (⟨f.toArray⟩ : ByteArray).toList = f := by simp
    generalize (⟨f.toArray⟩ : ByteArray) = S at *
    have key : ∀ (D : Bool), decide (f ∈ words) = D → ((D = true ∧ (f = [110, 111, 110, 101] ∨ f = [105, 110, 105, 116, 105, 97, 108] ∨ f = [105, 110, 104, 101, 114, 105, 116] ∨ f = [117, 110, 115, 101, 116] ∨ f = [100, 101, 102, 97, 117, 108, 116] ∨ f = [114, 101, 118, 101, 114, 116] ∨ f = [114, 101, 118, 101, 114, 116, 45, 108, 97, 121, 101, 114])) ∨ (D = false ∧ f ≠ [110, 111, 110, 101] ∧ f ≠ [105, 110, 105, 116, 105, 97, 108] ∧ f ≠ [105, 110, 104, 101, 114, 105, 116] ∧ f ≠ [117, 110, 115, 101, 116] ∧ f ≠ [100, 101, 102, 97, 117, 108, 116] ∧ f ≠ [114, 101, 118, 101, 114, 116] ∧ f ≠ [114, 101, 118, 101, 114, 116, 45, 108, 97, 121, 101, 114])) → Calls Tryd.prog 11 #[.string s] w (BP D w) := by
      intro D hD h
      rcases h with ⟨rfl, h⟩ | ⟨rfl, h⟩
      · rcases h with rfl | rfl | rfl | rfl | rfl | rfl | rfl
        · have f0 : (S.toList == [110, 111, 110, 101]) = true := by rw [hS]; rfl
          clear hS hD
          go_enter Tryd.func11, Tryd.ntmps11
          go_wp2_with fail
          refine F.out.mono ?_
          rintro e w1 ⟨rfl, hb⟩
          have BB := Lib.hid hb
          clear hb
          go_wp2_with fail
          go_ret
          exact ⟨rfl, BB.out⟩
        · have f0 : (S.toList == [110, 111, 110, 101]) = false := by rw [hS]; rfl
          have f1 : (S.toList == [105, 110, 105, 116, 105, 97, 108]) = true := by rw [hS]; rfl
          clear hS hD
          go_enter Tryd.func11, Tryd.ntmps11
          go_wp2_with fail
          refine F.out.mono ?_
          rintro e w1 ⟨rfl, hb⟩
          have BB := Lib.hid hb
          clear hb
          go_wp2_with fail
          go_ret
          exact ⟨rfl, BB.out⟩
        · have f0 : (S.toList == [110, 111, 110, 101]) = false := by rw [hS]; rfl
          have f1 : (S.toList == [105, 110, 105, 116, 105, 97, 108]) = false := by rw [hS]; rfl
          have f2 : (S.toList == [105, 110, 104, 101, 114, 105, 116]) = true := by rw [hS]; rfl
          clear hS hD
          go_enter Tryd.func11, Tryd.ntmps11
          go_wp2_with fail
          refine F.out.mono ?_
          rintro e w1 ⟨rfl, hb⟩
          have BB := Lib.hid hb
          clear hb
          go_wp2_with fail
          go_ret
          exact ⟨rfl, BB.out⟩
        · have f0 : (S.toList == [110, 111, 110, 101]) = false := by rw [hS]; rfl
          have f1 : (S.toList == [105, 110, 105, 116, 105, 97, 108]) = false := by rw [hS]; rfl
          have f2 : (S.toList == [105, 110, 104, 101, 114, 105, 116]) = false := by rw [hS]; rfl
          have f3 : (S.toList == [117, 110, 115, 101, 116]) = true := by rw [hS]; rfl
          clear hS hD
          go_enter Tryd.func11, Tryd.ntmps11
          go_wp2_with fail
          refine F.out.mono ?_
          rintro e w1 ⟨rfl, hb⟩
          have BB := Lib.hid hb
          clear hb
          go_wp2_with fail
          go_ret
          exact ⟨rfl, BB.out⟩
        · have f0 : (S.toList == [110, 111, 110, 101]) = false := by rw [hS]; rfl
          have f1 : (S.toList == [105, 110, 105, 116, 105, 97, 108]) = false := by rw [hS]; rfl
          have f2 : (S.toList == [105, 110, 104, 101, 114, 105, 116]) = false := by rw [hS]; rfl
          have f3 : (S.toList == [117, 110, 115, 101, 116]) = false := by rw [hS]; rfl
          have f4 : (S.toList == [100, 101, 102, 97, 117, 108, 116]) = true := by rw [hS]; rfl
          clear hS hD
          go_enter Tryd.func11, Tryd.ntmps11
          go_wp2_with fail
          refine F.out.mono ?_
          rintro e w1 ⟨rfl, hb⟩
          have BB := Lib.hid hb
          clear hb
          go_wp2_with fail
          go_ret
          exact ⟨rfl, BB.out⟩
        · have f0 : (S.toList == [110, 111, 110, 101]) = false := by rw [hS]; rfl
          have f1 : (S.toList == [105, 110, 105, 116, 105, 97, 108]) = false := by rw [hS]; rfl
          have f2 : (S.toList == [105, 110, 104, 101, 114, 105, 116]) = false := by rw [hS]; rfl
          have f3 : (S.toList == [117, 110, 115, 101, 116]) = false := by rw [hS]; rfl
          have f4 : (S.toList == [100, 101, 102, 97, 117, 108, 116]) = false := by rw [hS]; rfl
          have f5 : (S.toList == [114, 101, 118, 101, 114, 116]) = true := by rw [hS]; rfl
          clear hS hD
          go_enter Tryd.func11, Tryd.ntmps11
          go_wp2_with fail
          refine F.out.mono ?_
          rintro e w1 ⟨rfl, hb⟩
          have BB := Lib.hid hb
          clear hb
          go_wp2_with fail
          go_ret
          exact ⟨rfl, BB.out⟩
        · have f0 : (S.toList == [110, 111, 110, 101]) = false := by rw [hS]; rfl
          have f1 : (S.toList == [105, 110, 105, 116, 105, 97, 108]) = false := by rw [hS]; rfl
          have f2 : (S.toList == [105, 110, 104, 101, 114, 105, 116]) = false := by rw [hS]; rfl
          have f3 : (S.toList == [117, 110, 115, 101, 116]) = false := by rw [hS]; rfl
          have f4 : (S.toList == [100, 101, 102, 97, 117, 108, 116]) = false := by rw [hS]; rfl
          have f5 : (S.toList == [114, 101, 118, 101, 114, 116]) = false := by rw [hS]; rfl
          have f6 : (S.toList == [114, 101, 118, 101, 114, 116, 45, 108, 97, 121, 101, 114]) = true := by rw [hS]; rfl
          clear hS hD
          go_enter Tryd.func11, Tryd.ntmps11
          go_wp2_with fail
          refine F.out.mono ?_
          rintro e w1 ⟨rfl, hb⟩
          have BB := Lib.hid hb
          clear hb
          go_wp2_with fail
          go_ret
          exact ⟨rfl, BB.out⟩
      · obtain ⟨h0, h1, h2, h3, h4, h5, h6⟩ := h
        have f0 : (S.toList == [110, 111, 110, 101]) = false := by rw [hS, beq_eq_false_iff_ne]; exact h0
        have f1 : (S.toList == [105, 110, 105, 116, 105, 97, 108]) = false := by rw [hS, beq_eq_false_iff_ne]; exact h1
        have f2 : (S.toList == [105, 110, 104, 101, 114, 105, 116]) = false := by rw [hS, beq_eq_false_iff_ne]; exact h2
        have f3 : (S.toList == [117, 110, 115, 101, 116]) = false := by rw [hS, beq_eq_false_iff_ne]; exact h3
        have f4 : (S.toList == [100, 101, 102, 97, 117, 108, 116]) = false := by rw [hS, beq_eq_false_iff_ne]; exact h4
        have f5 : (S.toList == [114, 101, 118, 101, 114, 116]) = false := by rw [hS, beq_eq_false_iff_ne]; exact h5
        have f6 : (S.toList == [114, 101, 118, 101, 114, 116, 45, 108, 97, 121, 101, 114]) = false := by rw [hS, beq_eq_false_iff_ne]; exact h6
        clear hS hD h0 h1 h2 h3 h4 h5 h6
        go_enter Tryd.func11, Tryd.ntmps11
        go_wp2_with fail
        refine F.out.mono ?_
        rintro e w1 ⟨rfl, hb⟩
        have BB := Lib.hid hb
        clear hb
        go_wp2_with fail
        go_ret
        exact ⟨rfl, BB.out⟩
    by_cases h : f ∈ words
    · refine key _ rfl (.inl ⟨by rw [decide_eq_true_eq]; exact h, ?_⟩)
      unfold words at h
      simpa only [List.mem_cons, List.not_mem_nil, or_false] using h
    · refine key _ rfl (.inr ⟨by rw [decide_eq_false_iff_not]; exact h, ?_⟩)
      unfold words at h
      simpa only [List.mem_cons, List.not_mem_nil, or_false, not_or] using h
theorem low_list (s : ByteArray) : (low s).toList = toLowerD s.data.toList := by unfold low; simp
theorem low_data (s : ByteArray) : (low s).data.toList = toLowerD s.data.toList := by unfold low; simp
theorem low_le (s : ByteArray) (hs : s.size ≤ 1048576) : (low s).size ≤ maxLen := by
  have h1 : (low s).size = (toLowerD s.data.toList).length := by unfold low; simp [ByteArray.size]
  rw [h1]
  have h2 := lowD_len s.data.toList
  rw [← Lib.size_eq] at h2
  unfold maxLen
  omega
end Go.Proofs.YtmfpgnedeonmiaaDoor.WA
