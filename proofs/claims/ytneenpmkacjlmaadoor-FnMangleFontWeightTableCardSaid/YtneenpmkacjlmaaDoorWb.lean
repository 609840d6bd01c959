/- mangleFontWeight, ZZmangleFontWeight and the law. -/
import Derived.Test.YtneenpmkacjlmaaDoorWa
import Derived.Test.YtneenpmkacjlmaaDoorTab
import Derived.DataShut
import Derived.Handy
namespace Go.Proofs.YtneenpmkacjlmaaDoor.WA
open Go.RowKit Go.Lib Go.Proofs.YtneenpmkacjlmaaDoor.LO Go.Proofs.YtneenpmkacjlmaaDoor.TB
set_option linter.unusedVariables false
theorem Blk.new' {w : World} {t g : Nat} {cs : Array Value} (h : g = w.heap.size) : Blk (w.alloc (.cells cs t)) g t cs := by subst h; exact Blk.new w t cs
def tok (k : Int) (s : ByteArray) : Array Value := #[.pointer none, .string s, .int .i32 0, .int .u32 0, .int .u16 0, .int .u8 k, .int .u8 0]
def MgP (k : Int) (s : ByteArray) (w : World) (e : Ending) (w' : World) : Prop := e = .returned (.agg (tok k s)) ∧ Below w.heap.size w w'
set_option maxRecDepth 100000 in
set_option maxHeartbeats 1000000 in
theorem mg_no (p : Value) (k : Int) (s : ByteArray) (w : World) (hk : (k != 29) = true) :
    Calls Tryd.prog 9 #[p, .agg (tok k s)] w (MgP k s w) := by
  unfold tok
  go_enter Tryd.func9, Tryd.ntmps9
  go_wp2_with fail
  refine bodyPost_ret (v := .agg #[.pointer none, .string s, .int .i32 0, .int .u32 0, .int .u16 0, .int .u8 k, .int .u8 0]) (by simp [results, Tryd.results9, go_sem]) rfl ⟨rfl, ?_⟩
  exact ((Below.refl _ _).alloc (Nat.le_refl _) _).alloc (by simp) _
set_option maxRecDepth 100000 in
set_option maxHeartbeats 1000000 in
theorem mg_yes (p : Value) (s : ByteArray) (w : World) (hs : s.size ≤ 1048576) (hT : Tabs w) (k' : Int) (s' : ByteArray)
    (hr : (((low s).toList == normalL) = true ∧ k' = 30 ∧ s' = ⟨#[52, 48, 48]⟩) ∨ (((low s).toList == normalL) = false ∧ ((low s).toList == boldL) = true ∧ k' = 30 ∧ s' = ⟨#[55, 48, 48]⟩) ∨ (((low s).toList == normalL) = false ∧ ((low s).toList == boldL) = false ∧ k' = 29 ∧ s' = s)) :
    Calls Tryd.prog 9 #[p, .agg (tok 29 s)] w (MgP k' s' w) := by
  unfold normalL boldL at hr
  have B0 := Lib.hid (show Below w.heap.size w ((w.alloc (.cells #[.pointer none, .string s, .int .i32 0, .int .u32 0, .int .u16 0, .int .u8 29, .int .u8 0] 77)).alloc (.cells #[.pointer none, .string ⟨#[]⟩, .int .i32 0, .int .u32 0, .int .u16 0, .int .u8 0, .int .u8 0] 77)) from ((Below.refl _ _).alloc (Nat.le_refl _) _).alloc (by simp) _)
  have HT := Lib.hid (hT.below B0.out)
  have HA := Lib.hid (show Blk ((w.alloc (.cells #[.pointer none, .string s, .int .i32 0, .int .u32 0, .int .u16 0, .int .u8 29, .int .u8 0] 77)).alloc (.cells #[.pointer none, .string ⟨#[]⟩, .int .i32 0, .int .u32 0, .int .u16 0, .int .u8 0, .int .u8 0] 77)) w.heap.size 77 #[.pointer none, .string s, .int .i32 0, .int .u32 0, .int .u16 0, .int .u8 29, .int .u8 0] from (Blk.new' rfl).alloc _)
  have HB := Lib.hid (show Blk ((w.alloc (.cells #[.pointer none, .string s, .int .i32 0, .int .u32 0, .int .u16 0, .int .u8 29, .int .u8 0] 77)).alloc (.cells #[.pointer none, .string ⟨#[]⟩, .int .i32 0, .int .u32 0, .int .u16 0, .int .u8 0, .int .u8 0] 77)) (w.heap.size + 1) 77 #[.pointer none, .string ⟨#[]⟩, .int .i32 0, .int .u32 0, .int .u16 0, .int .u8 0, .int .u8 0] from Blk.new' (by simp))
  have x1 := HA.out.cell 1
  simp only [List.getElem?_toArray, List.getElem?_cons_zero, List.getElem?_cons_succ] at x1
  clear hT
  unfold tok
  go_enter Tryd.func9, Tryd.ntmps9
  go_upto_region 3 with (fail)
  generalize (w.alloc (.cells #[.pointer none, .string s, .int .i32 0, .int .u32 0, .int .u16 0, .int .u8 29, .int .u8 0] 77)).alloc (.cells #[.pointer none, .string ⟨#[]⟩, .int .i32 0, .int .u32 0, .int .u16 0, .int .u8 0, .int .u8 0] 77) = W0 at *
  go_wp2_with fail
  refine (lower s W0 hs HT.out).mono ?_
  rintro e w1 ⟨rfl, hb⟩
  have HA1 := HA.out.below hb HA.out.lt
  have HB1 := HB.out.below hb HB.out.lt
  have BB := Lib.hid (B0.out.trans (hb.mono B0.out.size))
  have c0 := HA1.cell 0
  have fc0 := HA1.frozen 0
  have c1 := HA1.cell 1
  have fc1 := HA1.frozen 1
  have c2 := HA1.cell 2
  have fc2 := HA1.frozen 2
  have c3 := HA1.cell 3
  have fc3 := HA1.frozen 3
  have c4 := HA1.cell 4
  have fc4 := HA1.frozen 4
  have c5 := HA1.cell 5
  have fc5 := HA1.frozen 5
  have c6 := HA1.cell 6
  have fc6 := HA1.frozen 6
  have d0 := HB1.cell 0
  have fd0 := HB1.frozen 0
  have d1 := HB1.cell 1
  have fd1 := HB1.frozen 1
  have d2 := HB1.cell 2
  have fd2 := HB1.frozen 2
  have d3 := HB1.cell 3
  have fd3 := HB1.frozen 3
  have d4 := HB1.cell 4
  have fd4 := HB1.frozen 4
  have d5 := HB1.cell 5
  have fd5 := HB1.frozen 5
  have d6 := HB1.cell 6
  have fd6 := HB1.frozen 6
  simp only [List.getElem?_toArray, List.getElem?_cons_zero, List.getElem?_cons_succ] at c0 d0 c1 d1 c2 d2 c3 d3 c4 d4 c5 d5 c6 d6
  clear hb HA1 HB1 HA HB HT B0 x1
  generalize low s = L at *
  have hn1 : w.heap.size + 1 ≠ w.heap.size := by omega
  rcases hr with ⟨e1, rfl, rfl⟩ | ⟨e1, e2, rfl, rfl⟩ | ⟨e1, e2, rfl, rfl⟩
  · go_wp2_with fail
    refine bodyPost_ret (v := .agg (tok 30 ⟨#[52, 48, 48]⟩)) (by simp [results, Tryd.results9, go_sem, tok, d0, d1, d2, d3, d4, d5, d6]) rfl ⟨rfl, ?_⟩
    go_grown
    exact BB.out
  · go_wp2_with fail
    refine bodyPost_ret (v := .agg (tok 30 ⟨#[55, 48, 48]⟩)) (by simp [results, Tryd.results9, go_sem, tok, d0, d1, d2, d3, d4, d5, d6]) rfl ⟨rfl, ?_⟩
    go_grown
    exact BB.out
  · go_wp2_with fail
    refine bodyPost_ret (v := .agg (tok 29 s')) (by simp [results, Tryd.results9, go_sem, tok, d0, d1, d2, d3, d4, d5, d6]) rfl ⟨rfl, ?_⟩
    go_grown
    exact BB.out
def ZzP (k : Int) (s : ByteArray) (w : World) (e : Ending) (w' : World) : Prop := e = .returned (.tuple #[.int .u8 k, .string s]) ∧ Below w.heap.size w w'
theorem bld77 (s : ByteArray) (k : Int) (w : World) : (Instr.build 77 #[(5, .int .u8 k), (1, .string s)]).run Tryd.prog w = .ok (.agg #[.pointer none, .string s, .int .i32 0, .int .u32 0, .int .u16 0, .int .u8 k, .int .u8 0]) w := run_build w 77 _ _ (by kernel_rfl)
set_option maxRecDepth 100000 in
set_option maxHeartbeats 1000000 in
theorem zz5 (k : Int) (s : ByteArray) (w : World) (hT : Tabs w) (k' : Int) (s' : ByteArray) (hM : ∀ p W, Tabs W → Calls Tryd.prog 9 #[p, .agg (tok k s)] W (MgP k' s' W)) :
    Calls Tryd.prog 5 #[.int .u8 k, .string s] w (ZzP k' s' w) := by
  have HT := Lib.hid hT
  have HM := Lib.hid hM
  have B77 := @bld77
  clear hT hM
  go_enter Tryd.func5, Tryd.ntmps5
  go_wp2_with fail
  refine (HM.out _ _ (HT.out.below ((Below.refl _ _).alloc (Nat.le_refl _) _))).mono ?_
  rintro e w1 ⟨rfl, hb⟩
  have BB := Lib.hid (((Below.refl w.heap.size w).alloc (Nat.le_refl _) _).trans (hb.mono (by simp)))
  clear hb HM HT B77
  unfold tok
  have BN := Blk.new w1 77 #[.pointer none, .string s', .int .i32 0, .int .u32 0, .int .u16 0, .int .u8 k', .int .u8 0]
  have c1 := BN.cell 1
  have c5 := BN.cell 5
  simp only [List.getElem?_toArray, List.getElem?_cons_zero, List.getElem?_cons_succ] at c1 c5
  have BF := Lib.hid (BB.out.alloc BB.out.size (.cells #[.pointer none, .string s', .int .i32 0, .int .u32 0, .int .u16 0, .int .u8 k', .int .u8 0] 77))
  clear BN
  go_upto_region 3 with (fail)
  generalize w1.alloc (.cells #[.pointer none, .string s', .int .i32 0, .int .u32 0, .int .u16 0, .int .u8 k', .int .u8 0] 77) = W1 at *
  go_quiet (fail)
  go_wp2_with fail
  go_ret2
  exact ⟨rfl, below_drewN BF.out _⟩
theorem id6 (w : World) : Calls Tryd.prog 6 #[] w fun e w' => e = .returned (.int .u8 29) ∧ w = w' := by
  go_enter Tryd.func6, Tryd.ntmps6
  go_wp2
  go_ret
  exact ⟨rfl, rfl⟩
theorem id7 (w : World) : Calls Tryd.prog 7 #[] w fun e w' => e = .returned (.int .u8 30) ∧ w = w' := by
  go_enter Tryd.func7, Tryd.ntmps7
  go_wp2
  go_ret
  exact ⟨rfl, rfl⟩
def SomeBool (w : World) (e : Ending) (w' : World) : Prop := ∃ b : Bool, e = .returned (.bool b) ∧ w = w'
set_option maxRecDepth 100000 in
theorem bytes4 (k : Int) (s : ByteArray) (w : World) (hs : s.size ≤ maxLen) : Calls Tryd.prog 4 #[.int .u8 k, .string s] w (SomeBool w) := by
  unfold maxLen at hs
  by_cases h : s.size ≤ 1048576
  all_goals
    go_enter Tryd.func4, Tryd.ntmps4
    go_wp2
    go_ret
    exact ⟨_, rfl, rfl⟩
theorem normal_ok : ∀ c ∈ normalL, c.toNat < 128 ∧ c ≠ 105 ∧ c ≠ 107 := by decide
theorem bold_ok : ∀ c ∈ boldL, c.toNat < 128 ∧ c ≠ 105 ∧ c ≠ 107 := by decide
set_option maxRecDepth 100000 in
set_option maxHeartbeats 2000000 in
theorem law3 (k : Int) (s : ByteArray) (w : World) (hk : (Lit.int .u8 k).wf = true) (hs : s.size ≤ maxLen) (hT : Tabs w) :
    Calls Tryd.prog 3 #[.int .u8 k, .string s] w fun e w' => e = .returned (.bool true) ∧ Below w.heap.size w w' := by
  have H4 := Lib.hid (bytes4 k s w hs)
  have HT := Lib.hid hT
  unfold maxLen at hs
  clear hk hT
  by_cases hbig : 1048576 < s.size
  · go_enter Tryd.func3, Tryd.ntmps3
    go_wp2_with fail
    refine H4.out.mono ?_
    rintro e w' ⟨b1, rfl, rfl⟩
    cases b1
    all_goals
      go_wp2_with fail
      go_ret
      exact ⟨rfl, Below.refl _ _⟩
  have hs2 : s.size ≤ 1048576 := by omega
  have N1 := Lib.hid (low_eq s normalL normal_ok)
  have N2 := Lib.hid (low_eq s boldL bold_ok)
  have F1 := Lib.hid (fun W => foldEq s ⟨#[110, 111, 114, 109, 97, 108]⟩ W hs2 (by decide))
  have F2 := Lib.hid (fun W => foldEq s ⟨#[98, 111, 108, 100]⟩ W hs2 (by decide))
  have M := Lib.hid (fun p W hW => mg_yes p s W hs2 hW)
  by_cases hk29 : k = 29
  · subst hk29
    by_cases hn : s.data.toList.map lowerB = normalL
    · have a1 : ((low s).toList == normalL) = true := by rw [N1.out, decide_eq_true_eq]; exact hn
      have e1 : decide (s.data.toList.map lowerB = (⟨#[110, 111, 114, 109, 97, 108]⟩ : ByteArray).data.toList) = true := by rw [decide_eq_true_eq]; exact hn
      have Z := Lib.hid (zz5 29 s w HT.out 30 ⟨#[52, 48, 48]⟩ (fun p W hW => M.out p W hW 30 ⟨#[52, 48, 48]⟩ (.inl ⟨a1, rfl, rfl⟩)))
      have F := Lib.hid (fun W => (F1.out W))
      rw [e1] at F
      clear hn a1 e1 N1 N2 F1 F2 M
      go_enter Tryd.func3, Tryd.ntmps3
      go_wp2_with fail
      refine H4.out.mono ?_
      rintro e w' ⟨b1, rfl, rfl⟩
      cases b1
      · go_wp2_with fail
        go_ret
        exact ⟨rfl, Below.refl _ _⟩
      go_wp2_with fail
      refine Z.out.mono ?_
      rintro e w1 ⟨rfl, hb⟩
      have BB := Lib.hid hb
      clear hb
      go_wp2_with (first
        | (go_at_call 6; refine (id6 _).mono ?_; rintro e w' ⟨rfl, rfl⟩)
        | (go_at_call 7; refine (id7 _).mono ?_; rintro e w' ⟨rfl, rfl⟩)
        | (go_at_call 8; refine (F.out _).mono ?_; rintro e w' ⟨rfl, rfl⟩))
      go_ret
      exact ⟨rfl, BB.out⟩
    · have a1 : ((low s).toList == normalL) = false := by rw [N1.out, decide_eq_false_iff_not]; exact hn
      have e1 : decide (s.data.toList.map lowerB = (⟨#[110, 111, 114, 109, 97, 108]⟩ : ByteArray).data.toList) = false := by rw [decide_eq_false_iff_not]; exact hn
      have FN := Lib.hid (fun W => (F1.out W))
      rw [e1] at FN
      by_cases hb : s.data.toList.map lowerB = boldL
      · have a2 : ((low s).toList == boldL) = true := by rw [N2.out, decide_eq_true_eq]; exact hb
        have e2 : decide (s.data.toList.map lowerB = (⟨#[98, 111, 108, 100]⟩ : ByteArray).data.toList) = true := by rw [decide_eq_true_eq]; exact hb
        have Z := Lib.hid (zz5 29 s w HT.out 30 ⟨#[55, 48, 48]⟩ (fun p W hW => M.out p W hW 30 ⟨#[55, 48, 48]⟩ (.inr (.inl ⟨a1, a2, rfl, rfl⟩))))
        have F := Lib.hid (fun W => (F2.out W))
        rw [e2] at F
        clear hn a1 e1 N1 N2 F1 F2 M hb a2 e2
        go_enter Tryd.func3, Tryd.ntmps3
        go_wp2_with fail
        refine H4.out.mono ?_
        rintro e w' ⟨b1, rfl, rfl⟩
        cases b1
        · go_wp2_with fail
          go_ret
          exact ⟨rfl, Below.refl _ _⟩
        go_wp2_with fail
        refine Z.out.mono ?_
        rintro e w1 ⟨rfl, hb⟩
        have BB := Lib.hid hb
        clear hb
        go_wp2_with (first
          | (go_at_call 6; refine (id6 _).mono ?_; rintro e w' ⟨rfl, rfl⟩)
          | (go_at_call 7; refine (id7 _).mono ?_; rintro e w' ⟨rfl, rfl⟩))
        refine (FN.out _).mono ?_
        rintro e w' ⟨rfl, rfl⟩
        go_wp2_with fail
        refine (F.out _).mono ?_
        rintro e w' ⟨rfl, rfl⟩
        go_wp2_with fail
        go_ret
        exact ⟨rfl, BB.out⟩
      · have a2 : ((low s).toList == boldL) = false := by rw [N2.out, decide_eq_false_iff_not]; exact hb
        have e2 : decide (s.data.toList.map lowerB = (⟨#[98, 111, 108, 100]⟩ : ByteArray).data.toList) = false := by rw [decide_eq_false_iff_not]; exact hb
        have Z := Lib.hid (zz5 29 s w HT.out 29 s (fun p W hW => M.out p W hW 29 s (.inr (.inr ⟨a1, a2, rfl, rfl⟩))))
        have F := Lib.hid (fun W => (F2.out W))
        rw [e2] at F
        clear hn a1 e1 N1 N2 F1 F2 M hb a2 e2
        go_enter Tryd.func3, Tryd.ntmps3
        go_wp2_with fail
        refine H4.out.mono ?_
        rintro e w' ⟨b1, rfl, rfl⟩
        cases b1
        · go_wp2_with fail
          go_ret
          exact ⟨rfl, Below.refl _ _⟩
        go_wp2_with fail
        refine Z.out.mono ?_
        rintro e w1 ⟨rfl, hb⟩
        have BB := Lib.hid hb
        clear hb
        go_wp2_with (first
          | (go_at_call 6; refine (id6 _).mono ?_; rintro e w' ⟨rfl, rfl⟩)
          | (go_at_call 7; refine (id7 _).mono ?_; rintro e w' ⟨rfl, rfl⟩))
        refine (FN.out _).mono ?_
        rintro e w' ⟨rfl, rfl⟩
        go_wp2_with fail
        refine (F.out _).mono ?_
        rintro e w' ⟨rfl, rfl⟩
        go_wp2_with fail
        go_ret
        exact ⟨rfl, BB.out⟩
  · have b1 : (k != 29) = true := by rw [bne_iff_ne]; exact hk29
    have b2 : (k == 29) = false := by rw [beq_eq_false_iff_ne]; exact hk29
    have Z := Lib.hid (zz5 k s w HT.out k s (fun p W hW => mg_no p k s W b1))
    clear hk29 N1 N2 F1 F2 M
    go_enter Tryd.func3, Tryd.ntmps3
    go_wp2_with fail
    refine H4.out.mono ?_
    rintro e w' ⟨b1, rfl, rfl⟩
    cases b1
    · go_wp2_with fail
      go_ret
      exact ⟨rfl, Below.refl _ _⟩
    go_wp2_with fail
    refine Z.out.mono ?_
    rintro e w1 ⟨rfl, hb⟩
    have BB := Lib.hid hb
    clear hb
    go_wp2_with (first
      | (go_at_call 6; refine (id6 _).mono ?_; rintro e w' ⟨rfl, rfl⟩)
      | (go_at_call 7; refine (id7 _).mono ?_; rintro e w' ⟨rfl, rfl⟩))
    go_ret
    exact ⟨rfl, BB.out⟩
end Go.Proofs.YtneenpmkacjlmaaDoor.WA
