/- FnScanForEndOfRuleShift: the walk. -/
import Derived.Test.YtajkdjheoefbcaaZh
namespace Go.Proofs.Ytajkdjheoefbcaa.ZA
open Go.RowKit Go.Proofs.Ytajkdjheoefbcaa.TB Go.Proofs.Ytajkdjheoefbcaa.OW Go.Proofs.Ytajkdjheoefbcaa.PL
set_option linter.unusedVariables false
theorem kl_cat (y z : Nat → Int) (m j : Nat) : kl (cat y z m) (m + j) = kl z j := by unfold kl cat; rw [if_neg (by omega), show m + j - m = j by omega]
theorem cat_bd {m n : Nat} {y z : Nat → Int} (hy : ∀ i, i < m → 0 ≤ y i ∧ y i ≤ 255) (hz : ∀ i, i < n → 0 ≤ z i ∧ z i ≤ 255) : ∀ i, i < m + n → 0 ≤ cat y z m i ∧ cat y z m i ≤ 255 := by
  intro i hi
  unfold cat
  split
  · exact hy i ‹_›
  · exact hz _ (by omega)
/-- The two scans, side by side. -/
theorem shift_cases (y z : Nat → Int) (m n k : Nat) : (SC (kl z) n 0 [] k = (0, -1) ∧ SC (kl (cat y z m)) (m + n) 0 [] (m + k) = (0, -1)) ∨ ∃ (a : Int) (p : Nat), SC (kl z) n 0 [] k = (a, (p : Int)) ∧ SC (kl (cat y z m)) (m + n) 0 [] (m + k) = (a, (p : Int) + (m : Int)) ∧ k ≤ p ∧ p < n := by
  have h1 := SC_shift (k := kl z) (k' := kl (cat y z m)) (n := n) (a := m) (fun j _ => kl_cat y z m j) (n - k + 1) 0 [] k (by omega)
  rcases SC_pos (kl z) n (n - k + 1) 0 [] k (by omega) with h | ⟨p, h2, h3, h4⟩
  · left; rw [h1, h]; exact ⟨rfl, rfl⟩
  · right
    refine ⟨(SC (kl z) n 0 [] k).1, p, by rw [← h2], ?_, h3, h4⟩
    rw [h1, if_neg (by omega), h2]
set_option maxRecDepth 100000 in
set_option maxHeartbeats 4000000 in
theorem law4 (A : Option Addr) (n c : Nat) (z : Nat → Int) (B : Option Addr) (m d : Nat) (y : Nat → Int) (ix : Int) (w : World) (r : BR w A n z) (hA : A = none → n = 0) (hn : n ≤ maxLen) (hw : ∀ i, i < n → (Lit.int .u8 (z i)).wf = true)
    (r2 : BR w B m y) (hB : B = none → m = 0) (hm : m ≤ maxLen) (hw2 : ∀ i, i < m → (Lit.int .u8 (y i)).wf = true) (hix : (Lit.int .i64 ix).wf = true) :
    Calls Try.prog 4 #[.slice A n c, .slice B m d, .int .i64 ix] w fun e w' => e = .returned (.bool true) ∧ Below w.heap.size w w' := by
  have HZ := Lib.hid (u8_bd hw)
  have HY := Lib.hid (u8_bd hw2)
  have HC := Lib.hid (cat_bd HY.out HZ.out)
  have R := Lib.hid r
  have RB := Lib.hid r2
  have HA := Lib.hid hA
  have HB := Lib.hid hB
  have H5 := Lib.hid (bytes10 A B n c m d ix w hn hm)
  unfold maxLen at hn hm
  have hi1 := ((Lit.wf_int_iff .i64 ix).1 hix).1
  have hi2 := ((Lit.wf_int_iff .i64 ix).1 hix).2
  rw [show IntKind.i64.min = -9223372036854775808 from rfl] at hi1
  rw [show IntKind.i64.max = 9223372036854775807 from rfl] at hi2
  clear hw r hA hix hw2 r2 hB
  by_cases hn2 : n ≤ 65536
  · by_cases hm2 : m ≤ 65536
    · by_cases h0 : 0 ≤ ix
      · by_cases h1 : ix ≤ n
        · obtain ⟨k, rfl⟩ : ∃ k : Nat, ix = k := ⟨ix.toNat, by omega⟩
          have g1 : decide ((k : Int) < 0) = false := by rw [decide_eq_false_iff_not]; omega
          have g2 : decide (n < k) = false := by rw [decide_eq_false_iff_not]; omega
          have g3 : ¬ n < k := by omega
          have g4 : decide (65536 < n) = false := by rw [decide_eq_false_iff_not]; omega
          have g5 : decide (65536 < m) = false := by rw [decide_eq_false_iff_not]; omega
          have g6 : decide ((65536 : Int) < (n : Int)) = false := by rw [decide_eq_false_iff_not]; omega
          have g7 : decide ((65536 : Int) < (m : Int)) = false := by rw [decide_eq_false_iff_not]; omega
          have hk : k ≤ n := by omega
          have emk : ((m + k : Nat) : Int) = (k : Int) + (m : Int) := by omega
          have SH := Lib.hid (shift_cases y z m n k)
          have EMK := Lib.hid emk
          clear emk
          go_enter Try.func4, Try.ntmps4
          go_wp2_with fail
          refine H5.out.mono ?_
          rintro e w' ⟨b1, rfl, rfl⟩
          clear H5
          cases b1
          · go_wp2_with fail
            go_ret
            exact ⟨rfl, Below.refl _ _⟩
          go_wp2_with fail
          refine (clone A n c z _ R.out HA.out (by omega)).mono ?_
          rintro e w1 ⟨A1, c1, rfl, hc1, hc2, hr1, hb1⟩
          have R1 := Lib.hid hr1
          have RB1 := Lib.hid (RB.out.below hb1)
          have B1 := Lib.hid hb1
          clear hr1 hb1
          go_wp2_with fail
          refine (clone B m d y _ RB1.out HB.out (by omega)).mono ?_
          rintro e w2 ⟨A2, c2, rfl, hc3, hc4, hr2, hb2⟩
          have R2 := Lib.hid hr2
          have R1a := Lib.hid (R1.out.below hb2)
          have B2 := Lib.hid (B1.out.trans (hb2.mono B1.out.size))
          clear hr2 hb2 B1 R1 RB1
          go_wp2_with fail
          refine (build A1 n c1 z HZ.out _ R1a.out (by omega)).mono ?_
          rintro e w3 ⟨g, rfl, hg, ht, hb3⟩
          have T3 := Lib.hid ht
          have R1b := Lib.hid (R1a.out.below hb3)
          have R2b := Lib.hid (R2.out.below hb3)
          have B3 := Lib.hid (B2.out.trans (hb3.mono B2.out.size))
          clear ht hb3 B2 R1a R2
          go_wp2_with fail
          refine (zzScan g n k z _ T3.out (by omega) hk).mono ?_
          rintro e w4 ⟨rfl, hb4⟩
          have R1c := Lib.hid (R1b.out.below hb4)
          have R2c := Lib.hid (R2b.out.below hb4)
          have B4 := Lib.hid (B3.out.trans (hb4.mono B3.out.size))
          clear hb4 B3 R1b R2b T3
          go_wp2_with fail
          refine (catW A2 A1 m n c2 c1 y z _ R2c.out R1c.out (by omega) (by omega)).mono ?_
          rintro e w5 ⟨A3, c3, rfl, hc5, hc6, hr5, hb5⟩
          have R5 := Lib.hid hr5
          have B5 := Lib.hid (B4.out.trans (hb5.mono B4.out.size))
          clear hr5 hb5 B4 R1c R2c
          go_wp2_with fail
          refine (build A3 (m + n) c3 (cat y z m) HC.out _ R5.out (by omega)).mono ?_
          rintro e w6 ⟨g', rfl, hg', ht6, hb6⟩
          have T6 := Lib.hid ht6
          have B6 := Lib.hid (B5.out.trans (hb6.mono B5.out.size))
          clear ht6 hb6 B5 R5
          have HS := Lib.hid (zzScan g' (m + n) (m + k) (cat y z m) w6 T6.out (by omega) (by omega))
          rw [EMK.out] at HS
          go_wp2_with fail
          refine HS.out.mono ?_
          rintro e w7 ⟨rfl, hb7⟩
          have B7 := Lib.hid (B6.out.trans (hb7.mono B6.out.size))
          clear hb7 B6 HS T6
          rcases SH.out with ⟨e1, e2⟩ | ⟨a, p, e1, e2, h3, h4⟩
          · rw [e1, e2]
            clear e1 e2 SH
            go_wp2_with fail
            go_ret
            exact ⟨rfl, B7.out⟩
          · rw [e1, e2]
            clear e1 e2 SH
            have j1 : ((p : Int) == -1) = false := by rw [beq_eq_false_iff_ne]; omega
            have j2 : decide (k ≤ p) = true := by rw [decide_eq_true_eq]; omega
            have j3 : decide (p < n) = true := by rw [decide_eq_true_eq]; omega
            go_wp2_with fail
            all_goals
              go_ret
              exact ⟨rfl, B7.out⟩
        · have g1 : decide (ix < 0) = false := by rw [decide_eq_false_iff_not]; omega
          have g2 : decide ((n : Int) < ix) = true := by rw [decide_eq_true_eq]; omega
          go_enter Try.func4, Try.ntmps4
          go_wp2_with fail
          refine H5.out.mono ?_
          rintro e w' ⟨b1, rfl, rfl⟩
          cases b1
          all_goals
            go_wp2_with fail
            go_ret
            exact ⟨rfl, Below.refl _ _⟩
      · have g1 : decide (ix < 0) = true := by rw [decide_eq_true_eq]; omega
        go_enter Try.func4, Try.ntmps4
        go_wp2_with fail
        refine H5.out.mono ?_
        rintro e w' ⟨b1, rfl, rfl⟩
        cases b1
        all_goals
          go_wp2_with fail
          go_ret
          exact ⟨rfl, Below.refl _ _⟩
    · have g5 : decide ((65536 : Int) < (m : Int)) = true := by rw [decide_eq_true_eq]; omega
      go_enter Try.func4, Try.ntmps4
      go_wp2_with fail
      refine H5.out.mono ?_
      rintro e w' ⟨b1, rfl, rfl⟩
      cases b1
      all_goals
        go_wp2_with fail
        go_ret
        exact ⟨rfl, Below.refl _ _⟩
  · have g5 : decide ((65536 : Int) < (n : Int)) = true := by rw [decide_eq_true_eq]; omega
    go_enter Try.func4, Try.ntmps4
    go_wp2_with fail
    refine H5.out.mono ?_
    rintro e w' ⟨b1, rfl, rfl⟩
    cases b1
    all_goals
      go_wp2_with fail
      go_ret
      exact ⟨rfl, Below.refl _ _⟩
end Go.Proofs.Ytajkdjheoefbcaa.ZA
