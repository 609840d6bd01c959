/- FnParseComponentValueLocal: the walk. -/
import Derived.Test.YtajkdjheoefbcaaFmtZi
namespace Go.Proofs.YtajkdjheoefbcaaFmt.ZA
open Go.RowKit Go.Proofs.YtajkdjheoefbcaaFmt.TB Go.Proofs.YtajkdjheoefbcaaFmt.OW Go.Proofs.YtajkdjheoefbcaaFmt.PL
set_option linter.unusedVariables false
theorem CV_local {k k' : Nat → Nat} {n n' i e : Nat} (hk : ∀ j, j < e → k' j = k j) (hE : e ≤ n') (hi : i < n) (h : CV k n i = some e) : CV k' n' i = some e := by
  have hg := CV_gt hi h
  unfold CV at h ⊢
  rw [hk i hg.1]
  cases hcl : cl (k i) with
  | none => rw [hcl] at h; exact h
  | some x =>
    rw [hcl] at h
    exact PB_local hk hE (n - (i + 1) + 1) (i + 1) x e (by omega) h (Nat.le_refl _)
theorem BR.take {w : World} {A : Option Addr} {n m : Nat} {z : Nat → Int} (h : BR w A n z) (hm : m ≤ n) : BR w A m z := by
  intro h0
  obtain ⟨b, o, e, hb, hc⟩ := h (by omega)
  exact ⟨b, o, e, hb, fun i hi => hc i (by omega)⟩
theorem cat_bd {z1 z2 : Nat → Int} {j m n : Nat} (h1 : ∀ i, i < n → 0 ≤ z1 i ∧ z1 i ≤ 255) (hj : j ≤ n) (h2 : ∀ i, i < m → 0 ≤ z2 i ∧ z2 i ≤ 255) : ∀ i, i < j + m → 0 ≤ cat z1 z2 j i ∧ cat z1 z2 j i ≤ 255 := by
  intro i hi
  unfold cat
  split
  · exact h1 i (by omega)
  · exact h2 (i - j) (by omega)
theorem kl_cat (z1 z2 : Nat → Int) {j i : Nat} (h : i < j) : kl (cat z1 z2 j) i = kl z1 i := by unfold kl cat; rw [if_pos h]
set_option maxRecDepth 100000 in
set_option maxHeartbeats 2000000 in
theorem law4 (A : Option Addr) (n c : Nat) (z : Nat → Int) (B : Option Addr) (m d : Nat) (y : Nat → Int) (ix : Int) (w : World) (r : BR w A n z) (hA : A = none → n = 0) (hn : n ≤ maxLen) (hw : ∀ i, i < n → (Lit.int .u8 (z i)).wf = true)
    (r2 : BR w B m y) (hB : B = none → m = 0) (hm : m ≤ maxLen) (hw2 : ∀ i, i < m → (Lit.int .u8 (y i)).wf = true) (hix : (Lit.int .i64 ix).wf = true) :
    Calls Tryf.prog 4 #[.slice A n c, .slice B m d, .int .i64 ix] w fun e w' => e = .returned (.bool true) ∧ Below w.heap.size w w' := by
  have HZ := Lib.hid (u8_bd hw)
  have HY := Lib.hid (u8_bd hw2)
  have R := Lib.hid r
  have HA := Lib.hid hA
  have S := Lib.hid r2
  have HB := Lib.hid hB
  have H5 := Lib.hid (bytes12 A B n c m d ix w hn hm)
  unfold maxLen at hn hm
  have hi1 := ((Lit.wf_int_iff .i64 ix).1 hix).1
  have hi2 := ((Lit.wf_int_iff .i64 ix).1 hix).2
  rw [show IntKind.i64.min = -9223372036854775808 from rfl] at hi1
  rw [show IntKind.i64.max = 9223372036854775807 from rfl] at hi2
  clear hw r hA hix hw2 r2 hB
  go_enter Tryf.func4, Tryf.ntmps4
  go_wp2_with fail
  refine H5.out.mono ?_
  rintro e w' ⟨b1, rfl, rfl⟩
  clear H5
  cases b1
  · go_wp2_with fail
    go_ret
    exact ⟨rfl, Below.refl _ _⟩
  by_cases hn2 : n ≤ 65536
  · by_cases hm2 : m ≤ 65536
    · by_cases h0 : 0 ≤ ix
      · by_cases h1 : ix < n
        · obtain ⟨k, rfl⟩ : ∃ k : Nat, ix = k := ⟨ix.toNat, by omega⟩
          have g1 : decide ((k : Int) < 0) = false := by rw [decide_eq_false_iff_not]; omega
          have g2 : decide (n ≤ k) = false := by rw [decide_eq_false_iff_not]; omega
          have g3 : ¬ n ≤ k := by omega
          have hk : k < n := by omega
          go_wp2_with fail
          refine (clone A n c z _ R.out HA.out (by omega)).mono ?_
          rintro e w1 ⟨A1, c1, rfl, hc1, hc2, hr1, hb1⟩
          have S1 := Lib.hid (S.out.below hb1)
          have R1 := Lib.hid hr1
          have B1 := Lib.hid hb1
          clear hr1 hb1 R S
          go_wp2_with fail
          refine (clone B m d y _ S1.out HB.out (by omega)).mono ?_
          rintro e w2 ⟨A2, c2, rfl, hc3, hc4, hr2, hb2⟩
          have S2 := Lib.hid hr2
          have R2 := Lib.hid (R1.out.below hb2)
          have B2 := Lib.hid (B1.out.trans (hb2.mono B1.out.size))
          clear hr2 hb2 R1 S1 B1 HA HB
          have CW := Lib.hid (comp13 A1 n c1 z HZ.out (by omega) k hk w2 R2.out)
          cases hcv : CV (kl z) n k with
          | none =>
            rw [hcv] at CW
            unfold GP gv at CW
            clear hcv
            go_wp2_with fail
            refine CW.out.mono ?_
            rintro e w3 ⟨rfl, hb3⟩
            have B3 := Lib.hid (B2.out.trans (hb3.mono B2.out.size))
            clear hb3
            go_wp2_with fail
            go_ret
            exact ⟨rfl, B3.out⟩
          | some e0 =>
            have hgt := CV_gt hk hcv
            have HC2 := Lib.hid (CV_local (k' := kl (cat z y e0)) (n' := e0 + m) (fun j hj => kl_cat z y hj) (by omega) hk hcv)
            have HC1 := Lib.hid hcv
            rw [hcv] at CW
            unfold GP gv at CW
            clear hcv
            obtain ⟨b, o, rfl, -, -⟩ := R2.out (by omega)
            go_wp2_with fail
            refine CW.out.mono ?_
            rintro e w3 ⟨rfl, hb3⟩
            have B3 := Lib.hid (B2.out.trans (hb3.mono B2.out.size))
            have R3 := Lib.hid (R2.out.below hb3)
            have S3 := Lib.hid (S2.out.below hb3)
            clear hb3 B2 R2 S2 CW
            go_wp2_with fail
            refine (build (some ⟨b, o, none⟩) n c1 z HZ.out _ R3.out (by omega)).mono ?_
            rintro e w4 ⟨g, rfl, hg, ht, hb4⟩
            have T4 := Lib.hid ht
            have B4 := Lib.hid (B3.out.trans (hb4.mono B3.out.size))
            have R4 := Lib.hid (R3.out.below hb4)
            have S4 := Lib.hid (S3.out.below hb4)
            clear ht hb4 B3 R3 S3
            go_wp2_with fail
            refine (zzPC g n k e0 _ z _ T4.out (by omega) hk HC1.out).mono ?_
            rintro e w5 ⟨rfl, hb5⟩
            have B5 := Lib.hid (B4.out.trans (hb5.mono B4.out.size))
            have R5 := Lib.hid ((R4.out.below hb5).take (m := e0) hgt.2)
            have S5 := Lib.hid (S4.out.below hb5)
            clear hb5 B4 R4 S4 T4
            have j1 : (0 : Int) ≤ (e0 : Int) := by omega
            have j2 : e0 ≤ c1 := by omega
            have j3 : (e0 : Int) ≤ (c1 : Int) := by omega
            go_wp2_with fail
            refine (catW (some ⟨b, o, none⟩) A2 e0 m c1 c2 z y _ R5.out S5.out (by omega) (by omega)).mono ?_
            rintro e w6 ⟨A3, c3, rfl, hc5, hc6, hr6, hb6⟩
            have R6 := Lib.hid hr6
            have B6 := Lib.hid (B5.out.trans (hb6.mono B5.out.size))
            clear hr6 hb6 B5 R5 S5
            go_wp2_with fail
            refine (build A3 (e0 + m) c3 (cat z y e0) (cat_bd HZ.out hgt.2 HY.out) _ R6.out (by omega)).mono ?_
            rintro e w7 ⟨g7, rfl, hg7, ht7, hb7⟩
            have T7 := Lib.hid ht7
            have B7 := Lib.hid (B6.out.trans (hb7.mono B6.out.size))
            clear ht7 hb7 B6 R6
            go_wp2_with fail
            refine (zzPC g7 (e0 + m) k e0 _ (cat z y e0) _ T7.out (by omega) (by omega) HC2.out).mono ?_
            rintro e w8 ⟨rfl, hb8⟩
            have B8 := Lib.hid (B7.out.trans (hb8.mono B7.out.size))
            clear hb8 B7 T7
            have f1 : decide ((k : Int) < (e0 : Int)) = true := by rw [decide_eq_true_eq]; omega
            have f2 : decide ((e0 : Int) ≤ (n : Int)) = true := by rw [decide_eq_true_eq]; omega
            have f3 : decide (k < e0) = true := by rw [decide_eq_true_eq]; omega
            have f4 : decide (e0 ≤ n) = true := by rw [decide_eq_true_eq]; omega
            have f5 : k < e0 := by omega
            have f6 : e0 ≤ n := by omega
            go_wp2_with fail
            go_ret
            exact ⟨by first | rfl | simp [f5, f6], B8.out⟩
        · have g1 : decide (ix < 0) = false := by rw [decide_eq_false_iff_not]; omega
          have g2 : decide ((n : Int) ≤ ix) = true := by rw [decide_eq_true_eq]; omega
          go_wp2_with fail
          go_ret
          exact ⟨rfl, Below.refl _ _⟩
      · have g1 : decide (ix < 0) = true := by rw [decide_eq_true_eq]; omega
        go_wp2_with fail
        go_ret
        exact ⟨rfl, Below.refl _ _⟩
    · go_wp2_with fail
      go_ret
      exact ⟨rfl, Below.refl _ _⟩
  · go_wp2_with fail
    go_ret
    exact ⟨rfl, Below.refl _ _⟩
end Go.Proofs.YtajkdjheoefbcaaFmt.ZA
