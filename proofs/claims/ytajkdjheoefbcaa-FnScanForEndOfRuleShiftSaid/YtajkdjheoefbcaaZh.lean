/- FnScanForEndOfRuleModel and FnScanForEndOfRuleShift: the walks. -/
import Derived.Test.YtajkdjheoefbcaaZg
import Derived.DataShut
namespace Go.Proofs.Ytajkdjheoefbcaa.ZA
open Go.RowKit Go.Proofs.Ytajkdjheoefbcaa.TB Go.Proofs.Ytajkdjheoefbcaa.OW Go.Proofs.Ytajkdjheoefbcaa.PL
set_option linter.unusedVariables false
set_option maxRecDepth 100000 in
set_option maxHeartbeats 1000000 in
theorem scan_end (gp g n : Nat) (z : Nat → Int) (w : World) (hP : Par w gp g n ⟨(allT z n).toArray⟩ n (tk z)) (hn : n ≤ 1048576) :
    Calls Try.prog 16 #[.pointer (some ⟨gp, 0, none⟩)] w (ScanP (0, -1) w) := by
  have B0 := Lib.hid (show Below w.heap.size w (w.alloc (.cells #[.int .u8 0, .int .u8 0, .int .u8 0, .int .u8 0] 94)) from (Below.refl _ _).alloc (Nat.le_refl _) _)
  have PP := hP.below B0.out hP.2.2.2
  have c1 := PP.1.1
  have c2 := PP.1.2.1
  clear hP PP
  go_enter Try.func16, Try.ntmps16
  go_wp2_with fail
  generalize w.alloc (.cells #[.int .u8 0, .int .u8 0, .int .u8 0, .int .u8 0] 94) = W0 at *
  go_quiet (fail)
  go_wp2_with fail
  go_loop [22] (fun i => i = .int .i64 0) (fun _ => 0)
  case atStart => rfl
  case round =>
    subst hrel
    go_wp2_with fail
    go_ret2
    exact ⟨rfl, below_drewN B0.out _⟩
set_option maxRecDepth 100000 in
set_option maxHeartbeats 1000000 in
theorem zzScan (g n ix : Nat) (z : Nat → Int) (w : World) (h : Tab w g 44 5 n (tk z)) (hn : n ≤ 1048576) (hi : ix ≤ n) :
    Calls Try.prog 8 #[.string ⟨(allT z n).toArray⟩, .slice (some ⟨g, 0, none⟩) n n, .int .i64 ix] w (ScanP (SC (kl z) n 0 [] ix) w) := by
  have H := Lib.hid h
  clear h
  by_cases hlt : ix < n
  · go_enter Try.func8, Try.ntmps8
    go_wp2_with fail
    refine (makeW _ g n ix (tk z) _ H.out).mono ?_
    rintro e w1 ⟨rfl, hp, hb⟩
    have HP := Lib.hid hp
    have HB := Lib.hid hb
    clear hp hb
    go_wp2_with fail
    refine (scanW w.heap.size g n ix z _ HP.out hn hlt).mono ?_
    rintro e w2 ⟨rfl, hb⟩
    have HB2 := Lib.hid hb
    clear hb
    go_wp2_with fail
    go_ret2
    exact ⟨rfl, HB.out.trans (HB2.out.mono HB.out.size)⟩
  · obtain rfl : ix = n := by omega
    have e : SC (kl z) ix 0 [] ix = (0, -1) := by rw [SC_eq, if_neg (by omega)]
    rw [e]
    clear e
    go_enter Try.func8, Try.ntmps8
    go_wp2_with fail
    refine (makeW _ g ix ix (tk z) _ H.out).mono ?_
    rintro e w1 ⟨rfl, hp, hb⟩
    have HP := Lib.hid hp
    have HB := Lib.hid hb
    clear hp hb
    go_wp2_with fail
    refine (scan_end w.heap.size g ix z _ HP.out hn).mono ?_
    rintro e w2 ⟨rfl, hb⟩
    have HB2 := Lib.hid hb
    clear hb
    go_wp2_with fail
    go_ret2
    exact ⟨rfl, HB.out.trans (HB2.out.mono HB.out.size)⟩
def SomeBool (w : World) (e : Ending) (w' : World) : Prop := ∃ b : Bool, e = .returned (.bool b) ∧ w = w'
set_option maxRecDepth 100000 in
theorem bytes5 (A : Option Addr) (n c : Nat) (i : Int) (w : World) (hn : n ≤ maxLen) : Calls Try.prog 5 #[.slice A n c, .int .i64 i] w (SomeBool w) := by
  unfold maxLen at hn
  by_cases h : n ≤ 1048576
  all_goals
    go_enter Try.func5, Try.ntmps5
    go_wp2
    go_ret
    exact ⟨_, rfl, rfl⟩
set_option maxRecDepth 100000 in
theorem bytes10 (A B : Option Addr) (n c m d : Nat) (i : Int) (w : World) (hn : n ≤ maxLen) (hm : m ≤ maxLen) : Calls Try.prog 10 #[.slice A n c, .slice B m d, .int .i64 i] w (SomeBool w) := by
  unfold maxLen at hn hm
  by_cases h : n ≤ 1048576
  · by_cases h2 : m ≤ 1048576
    · by_cases h3 : n + m ≤ 1048576
      all_goals
        go_enter Try.func10, Try.ntmps10
        go_wp2
        all_goals (go_ret; exact ⟨_, rfl, rfl⟩)
    · go_enter Try.func10, Try.ntmps10
      go_wp2
      go_ret
      exact ⟨_, rfl, rfl⟩
  · go_enter Try.func10, Try.ntmps10
    go_wp2
    go_ret
    exact ⟨_, rfl, rfl⟩
theorem u8_bd {n : Nat} {z : Nat → Int} (h : ∀ i, i < n → (Lit.int .u8 (z i)).wf = true) : ∀ i, i < n → 0 ≤ z i ∧ z i ≤ 255 := by
  intro i hi
  have h1 := (Lit.wf_int_iff .u8 (z i)).1 (h i hi)
  rw [show IntKind.u8.min = 0 from rfl, show IntKind.u8.max = 255 from rfl] at h1
  exact h1
set_option maxRecDepth 100000 in
set_option maxHeartbeats 2000000 in
theorem law3 (A : Option Addr) (n c : Nat) (z : Nat → Int) (ix : Int) (w : World) (r : BR w A n z) (hA : A = none → n = 0) (hn : n ≤ maxLen) (hw : ∀ i, i < n → (Lit.int .u8 (z i)).wf = true) (hix : (Lit.int .i64 ix).wf = true) :
    Calls Try.prog 3 #[.slice A n c, .int .i64 ix] w fun e w' => e = .returned (.bool true) ∧ Below w.heap.size w w' := by
  have HZ := Lib.hid (u8_bd hw)
  have R := Lib.hid r
  have HA := Lib.hid hA
  have H5 := Lib.hid (bytes5 A n c ix w hn)
  unfold maxLen at hn
  have hi1 := ((Lit.wf_int_iff .i64 ix).1 hix).1
  have hi2 := ((Lit.wf_int_iff .i64 ix).1 hix).2
  rw [show IntKind.i64.min = -9223372036854775808 from rfl] at hi1
  rw [show IntKind.i64.max = 9223372036854775807 from rfl] at hi2
  clear hw r hA hix
  go_enter Try.func3, Try.ntmps3
  go_wp2_with fail
  refine H5.out.mono ?_
  rintro e w' ⟨b1, rfl, rfl⟩
  clear H5
  cases b1
  · go_wp2_with fail
    go_ret
    exact ⟨rfl, Below.refl _ _⟩
  by_cases hn2 : n ≤ 65536
  · by_cases h0 : 0 ≤ ix
    · by_cases h1 : ix ≤ n
      · obtain ⟨k, rfl⟩ : ∃ k : Nat, ix = k := ⟨ix.toNat, by omega⟩
        have g1 : decide ((k : Int) < 0) = false := by rw [decide_eq_false_iff_not]; omega
        have g2 : decide (n < k) = false := by rw [decide_eq_false_iff_not]; omega
        have g3 : ¬ n < k := by omega
        have hk : k ≤ n := by omega
        go_wp2_with fail
        refine (clone A n c z _ R.out HA.out (by omega)).mono ?_
        rintro e w1 ⟨A1, c1, rfl, hc1, hc2, hr1, hb1⟩
        have R1 := Lib.hid hr1
        have B1 := Lib.hid hb1
        clear hr1 hb1
        go_wp2_with fail
        refine (build A1 n c1 z HZ.out _ R1.out (by omega)).mono ?_
        rintro e w2 ⟨g, rfl, hg, ht, hb2⟩
        have T2 := Lib.hid ht
        have R2 := Lib.hid (R1.out.below hb2)
        have B2 := Lib.hid (B1.out.trans (hb2.mono B1.out.size))
        clear ht hb2
        go_wp2_with fail
        refine (zzScan g n k z _ T2.out (by omega) hk).mono ?_
        rintro e w3 ⟨rfl, hb3⟩
        have R3 := Lib.hid (R2.out.below hb3)
        have B3 := Lib.hid (B2.out.trans (hb3.mono B2.out.size))
        have HM := Lib.hid (modelW A1 n c1 z HZ.out (by omega) k w3 hk R3.out)
        clear hb3
        generalize SC (kl z) n 0 [] k = r at *
        go_wp2_with fail
        refine HM.out.mono ?_
        rintro e w' ⟨rfl, rfl⟩
        go_wp2_with fail
        go_ret
        exact ⟨rfl, B3.out⟩
      · have g1 : decide (ix < 0) = false := by rw [decide_eq_false_iff_not]; omega
        have g2 : decide ((n : Int) < ix) = true := by rw [decide_eq_true_eq]; omega
        go_wp2_with fail
        go_ret
        exact ⟨rfl, Below.refl _ _⟩
    · have g1 : decide (ix < 0) = true := by rw [decide_eq_true_eq]; omega
      go_wp2_with fail
      go_ret
      exact ⟨rfl, Below.refl _ _⟩
  · go_wp2_with fail
    go_ret
    exact ⟨rfl, Below.refl _ _⟩
end Go.Proofs.Ytajkdjheoefbcaa.ZA
