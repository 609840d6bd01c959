/- FnIsFontSizeMatchesKeywordTable: the walk. -/
import Derived.Test.YthjfpkokcecinaaDoorXc
namespace Go.Proofs.YthjfpkokcecinaaDoor.WA
open Go.RowKit Go.Lib Go.Proofs.YthjfpkokcecinaaDoor.LO Go.Proofs.YthjfpkokcecinaaDoor.TB Go.Proofs.YthjfpkokcecinaaDoor.OW
set_option linter.unusedVariables false
set_option maxRecDepth 100000 in
set_option maxHeartbeats 1000000 in
theorem zz5 (k : Int) (s : ByteArray) (w : World) (b : Bool) (hT : Tabs w) (hM : ∀ W, Tabs W → Calls Tryd.prog 8 #[.agg (tok k s)] W (BP b W)) :
    Calls Tryd.prog 5 #[.agg (tok k s)] w (BP b w) := by
  have HM := Lib.hid (hM _ (hT.below ((Below.refl w.heap.size w).alloc (Nat.le_refl _) (.cells #[.pointer none, .string s, .int .i32 0, .int .u32 0, .int .u16 0, .int .u8 k, .int .u8 0] 32))))
  unfold tok at HM ⊢
  clear hM hT
  go_enter Tryd.func5, Tryd.ntmps5
  go_wp2_with fail
  refine HM.out.mono ?_
  rintro e w1 ⟨rfl, hb⟩
  have BB := Lib.hid (((Below.refl w.heap.size w).alloc (Nat.le_refl _) _).trans (hb.mono (by simp)))
  clear hb HM
  go_wp2_with fail
  go_ret
  exact ⟨rfl, BB.out⟩
def SomeBool (w : World) (e : Ending) (w' : World) : Prop := ∃ b : Bool, e = .returned (.bool b) ∧ w = w'
set_option maxRecDepth 100000 in
theorem bytes4 (k : Int) (s : ByteArray) (w : World) (hs : s.size ≤ maxLen) : Calls Tryd.prog 4 #[.int .u8 k, .string s] w (SomeBool w) := by
  unfold maxLen at hs
  by_cases h : s.size ≤ 1048576
  all_goals
    go_enter Tryd.func4, Tryd.ntmps4
    go_wp2
    go_ret
    exact ⟨_, rfl, rfl⟩
theorem bld32 (s : ByteArray) (k : Int) (w : World) : (Instr.build 32 #[(5, .int .u8 k), (1, .string s)]).run Tryd.prog w = .ok (.agg #[.pointer none, .string s, .int .i32 0, .int .u32 0, .int .u16 0, .int .u8 k, .int .u8 0]) w := run_build w 32 _ _ (by kernel_rfl)
set_option maxRecDepth 100000 in
set_option maxHeartbeats 2000000 in
theorem law3 (k : Int) (s : ByteArray) (w : World) (hk : (Lit.int .u8 k).wf = true) (hs : s.size ≤ maxLen) (hT : Tabs w) :
    Calls Tryd.prog 3 #[.int .u8 k, .string s] w fun e w' => e = .returned (.bool true) ∧ Below w.heap.size w w' := by
  have H4 := Lib.hid (bytes4 k s w hs)
  have HT := Lib.hid hT
  have B32 := @bld32
  unfold maxLen at hs
  clear hk hT
  by_cases hbig : 1048576 < s.size
  · go_enter Tryd.func3, Tryd.ntmps3
    go_wp2_with fail
    refine H4.out.mono ?_
    rintro e w' ⟨b1, rfl, rfl⟩
    cases b1
    all_goals
      go_wp2_with fail
      go_ret
      exact ⟨rfl, Below.refl _ _⟩
  have hs2 : s.size ≤ 1048576 := by omega
  -- the kinds that need no text
  have key : ∀ b : Bool, (((k == 26) = true ∧ b = true) ∨ ((k == 26) = false ∧ (k == 34) = true ∧ b = true) ∨ ((k == 26) = false ∧ (k == 34) = false ∧ (k == 29) = false ∧ b = false)) →
      Calls Tryd.prog 3 #[.int .u8 k, .string s] w fun e w' => e = .returned (.bool true) ∧ Below w.heap.size w w' := by
    intro b h
    have Z := Lib.hid (zz5 k s w b HT.out (fun W _ => fs_plain k s W b h))
    unfold tok at Z
    rcases h with ⟨a, rfl⟩ | ⟨a, c, rfl⟩ | ⟨a, c, d, rfl⟩
    all_goals
      go_enter Tryd.func3, Tryd.ntmps3
      go_wp2_with fail
      refine H4.out.mono ?_
      rintro e w' ⟨b1, rfl, rfl⟩
      cases b1
      · go_wp2_with fail
        go_ret
        exact ⟨rfl, Below.refl _ _⟩
      go_wp2_with fail
      refine Z.out.mono ?_
      rintro e w1 ⟨rfl, hb⟩
      have BB := Lib.hid hb
      clear hb
      go_wp2_with fail
      go_ret
      exact ⟨rfl, BB.out⟩
  by_cases h26 : k = 26
  · exact key true (.inl ⟨by rw [beq_iff_eq]; exact h26, rfl⟩)
  by_cases h34 : k = 34
  · exact key true (.inr (.inl ⟨by rw [beq_eq_false_iff_ne]; exact h26, by rw [beq_iff_eq]; exact h34, rfl⟩))
  by_cases h29 : k = 29
  · subst h29
    clear key h26 h34
    have Z := Lib.hid (zz5 29 s w _ HT.out (fun W hW => fs_id s W hs2 hW))
    have E := Lib.hid (word_fold words words_ascii s.data.toList)
    unfold tok at Z
    have F := Lib.hid (fun W => fold s W hs2)
    unfold FoldP at F
    cases hf : FM s.data.toList with
    | none =>
      have e : decide (toLowerD s.data.toList ∈ words) = false := by rw [E.out, hf]
      rw [e] at Z
      rw [hf] at F
      clear e E hf
      go_enter Tryd.func3, Tryd.ntmps3
      go_wp2_with fail
      refine H4.out.mono ?_
      rintro e w' ⟨b1, rfl, rfl⟩
      cases b1
      · go_wp2_with fail
        go_ret
        exact ⟨rfl, Below.refl _ _⟩
      go_wp2_with fail
      refine Z.out.mono ?_
      rintro e w1 ⟨rfl, hb⟩
      have BB := Lib.hid hb
      clear hb
      go_wp2_with fail
      refine (F.out w1).mono ?_
      rintro e w2 ⟨rfl, hb⟩
      have B2 := Lib.hid (BB.out.trans (hb.mono BB.out.size))
      clear hb
      go_wp2_with fail
      go_ret
      exact ⟨rfl, B2.out⟩
    | some f =>
      have e : decide (toLowerD s.data.toList ∈ words) = decide (f ∈ words) := by rw [E.out, hf]
      have K := Lib.hid (fun W => isKw ⟨f.toArray⟩ W)
      have ef : decide ((⟨f.toArray⟩ : ByteArray).data.toList ∈ words) = decide (f ∈ words) := by simp
      rw [ef] at K
      rw [e] at Z
      rw [hf] at F
      generalize decide (f ∈ words) = D at *
      clear e E hf ef
      go_enter Tryd.func3, Tryd.ntmps3
      go_wp2_with fail
      refine H4.out.mono ?_
      rintro e w' ⟨b1, rfl, rfl⟩
      cases b1
      · go_wp2_with fail
        go_ret
        exact ⟨rfl, Below.refl _ _⟩
      go_wp2_with fail
      refine Z.out.mono ?_
      rintro e w1 ⟨rfl, hb⟩
      have BB := Lib.hid hb
      clear hb
      go_wp2_with fail
      refine (F.out w1).mono ?_
      rintro e w2 ⟨rfl, hb⟩
      have B2 := Lib.hid (BB.out.trans (hb.mono BB.out.size))
      clear hb
      go_wp2_with fail
      refine (K.out w2).mono ?_
      rintro e w' ⟨rfl, rfl⟩
      cases D
      all_goals
        go_wp2_with fail
        go_ret
        exact ⟨rfl, B2.out⟩
  · exact key false (.inr (.inr ⟨by rw [beq_eq_false_iff_ne]; exact h26, by rw [beq_eq_false_iff_ne]; exact h34, by rw [beq_eq_false_iff_ne]; exact h29, rfl⟩))
end Go.Proofs.YthjfpkokcecinaaDoor.WA
