/- FnScanMediaComparisonConsumesExactlyItsOperator, one case. Printed by gen_scanlaw.py. -/
import Derived.Test.YtceafaddhbabhaaSf
namespace Go.Proofs.Ytceafaddhbabhaa.ZT
open Go.RowKit Go.Proofs.Ytceafaddhbabhaa.TB
set_option linter.unusedVariables false
set_option maxRecDepth 100000 in
set_option maxHeartbeats 4000000 in
theorem law4_none (A : Option Addr) (n c : Nat) (K : Nat → Int) (T : Nat → ByteArray) (W L : Nat → Int) (w : World) (r : ZR w A n K T W L) (hA : A = none → n = 0) (hn : n ≤ 16384) (h0 : 0 < n) (hm : cmpOf n K W = 0) (c0 : (K 0 == 18) = false) (c1 : (K 0 == 21) = false) (c2 : (K 0 == 20) = false) :
    Calls Try.prog 4 #[.slice A n c] w fun e w' => e = .returned (.bool true) ∧ Below w.heap.size w w' := by
  have R := Lib.hid r
  have HM := Lib.hid hm
  have HI := Lib.hid (show isCmp (K 0) = false by unfold isCmp; rw [c0, c1, c2]; rfl)
  clear r hm
  go_enter Try.func4, Try.ntmps4
  go_wp2_with fail
  refine (bytes13 A n c K T W L _ R.out (by omega)).mono ?_
  rintro e w' ⟨bb, rfl, rfl⟩
  cases bb
  · go_wp2_with fail
    go_ret
    exact ⟨rfl, Below.refl _ _⟩
  go_wp2_with fail
  refine (size_any A n c K T W L _ R.out hn).mono ?_
  rintro e w' ⟨N, ⟨hN0, hN1⟩, rfl, rfl⟩
  by_cases hN : 1048576 < N
  · go_wp2_with fail
    go_ret
    exact ⟨rfl, Below.refl _ _⟩
  go_wp2_with fail
  refine (clone_any A n c K T W L _ R.out hA hn).mono ?_
  rintro e w1 ⟨A1, c1, rfl, hc1, hz1, ha1, hb1⟩
  have Z1 := Lib.hid hz1
  have HA1 := Lib.hid ha1
  clear hz1 ha1 R
  go_wp2_with fail
  refine (toks_any A1 n c1 K T W L _ Z1.out HA1.out hn).mono ?_
  rintro e w2 ⟨A2, c2', rfl, hc2, hc2', ht2, ha2, hb2⟩
  have T2 := Lib.hid ht2
  clear ht2 ha2
  go_wp2_with fail
  refine (zzScan A2 n c2' K T W L _ T2.out hc2 hc2').mono ?_
  rw [HM.out]
  rintro e w3 hsc
  obtain ⟨A3, rfl, ht3, hb3⟩ := (show ScanQ n c2' 0 0 K T W L _ e w3 from hsc)
  clear hsc
  have TQ := Lib.hid ht3
  have ZQ := Lib.hid ((Z1.out.below hb2).below hb3)
  have BQ := Lib.hid ((hb1.trans (hb2.mono hb1.size)).trans (hb3.mono (Nat.le_trans hb1.size hb2.size)))
  clear ht3 hb1 hb2 hb3 Z1 T2 HA1 HM
  obtain ⟨b, o, rfl, hb, hf⟩ := ZQ.out h0
  obtain ⟨x0, x1, x2, x3⟩ := hf 0 h0
  rw [show o + 0 * 4 = o by omega] at x0 x2
  go_wp2_with fail
  refine (isCmp_any (K 0) _).mono ?_
  rintro e w4 ⟨rfl, rfl⟩
  rw [HI.out]
  go_upto_region 12 with fail
  go_cut [62] (fun s wx => s = .bool (gB n K W) ∧ Hid (Below w3.heap.size w3 wx))
  case first =>
    by_cases n2 : 2 ≤ n
    · have g2 : decide ((2 : Int) ≤ (n : Int)) = true := by simp; omega
      obtain ⟨x4, x5, x6, x7⟩ := hf 1 (by omega)
      rw [show o + 1 * 4 = o + 4 by omega] at x4 x6
      have q2 : (1 : Int) < (n : Int) := by omega
      cases k1 : (K 1 == 18)
      · have e1 : gB n K W = false := by unfold gB; rw [k1]; simp
        have E1 := Lib.hid e1
        clear e1 hf
        go_quiet (fail)
        go_wp2_with fail
        go_meet
        exact ⟨by rw [E1.out], Lib.hid (below_drewN (Below.refl _ _) _)⟩
      · have e1 : gB n K W = (bits .or .u8 (bits .and .u8 (W 0) 2) (bits .and .u8 (W 1) 1) == 0) := by unfold gB wsB; rw [k1]; simp [n2]
        have E1 := Lib.hid e1
        clear e1 hf
        go_quiet (fail)
        go_wp2_with fail
        go_meet
        exact ⟨by rw [E1.out], Lib.hid (below_drewN (Below.refl _ _) _)⟩
    · have g2 : decide ((2 : Int) ≤ (n : Int)) = false := by simp; omega
      have e1 : gB n K W = false := by unfold gB; simp [n2]
      have E1 := Lib.hid e1
      clear e1 hf
      go_quiet (fail)
      go_wp2_with fail
      go_meet
      exact ⟨by rw [E1.out], Lib.hid (below_drewN (Below.refl _ _) _)⟩
  case rest =>
    obtain ⟨rfl, hbc⟩ := hcut
    obtain ⟨W5, rfl⟩ : ∃ W5 : World, W5 = wc := ⟨_, rfl⟩
    have ZQ' := Lib.hid (ZQ.out.below hbc.out)
    have TQ' := Lib.hid (TQ.out.below hbc.out)
    have BQ' := Lib.hid (BQ.out.trans (hbc.out.mono BQ.out.size))
    have x0' : W5.cell? ⟨b, o, none⟩ = some (.int .u8 (K 0)) := by rw [hbc.out.cell hb]; exact x0
    clear ZQ TQ BQ hbc x0 x1 x2 x3 hf
    have ZQ := ZQ'
    have TQ := TQ'
    have BQ := BQ'
    clear ZQ' TQ' BQ'
    cases hg : gB n K W
    · go_wp2_with fail
      refine (width0 _).mono ?_
      rintro e w7 ⟨rfl, rfl⟩
      go_wp2_with fail
      refine (op0 (some ⟨b, o, none⟩) n c1 _).mono ?_
      rintro e w8 ⟨rfl, hb8⟩
      have ZQ2 := Lib.hid (ZQ.out.below hb8)
      have TQ2 := Lib.hid (TQ.out.below hb8)
      have BQ2 := Lib.hid (BQ.out.trans (hb8.mono BQ.out.size))
      clear hb8 ZQ TQ BQ
      have hne : (((n - 0 : Nat) : Int) != (n : Int) - 0) = false := by simp <;> omega
      have hwn : (0 : Int) ≤ (n : Int) := by omega
      go_wp2_with fail
      clear hne
      go_loopw [8] (fun i wr => ∃ j : Nat, j ≤ n - 0 ∧ i = .int .i64 j ∧ Hid (ZR wr (some ⟨b, o, none⟩) n K T W L) ∧ Hid (TR wr A3 (n - 0) (fun i j => tc K T W L (i + 0) j)) ∧ Hid (Below w.heap.size w wr)) (fun i _ => n - 0 - (intOf i).toNat)
      case atStart => exact ⟨0, Nat.zero_le _, rfl, ZQ2, TQ2, BQ2⟩
      case round =>
        obtain ⟨j, hj, rfl, ZQ3, TQ3, BQ3⟩ := hrel
        clear ZQ2 TQ2 BQ2
        by_cases hlt : j < n - 0
        · obtain ⟨b, o, e1, hb, hf⟩ := ZQ3.out (by omega)
          obtain ⟨b', o', e2, hb', hf'⟩ := TQ3.out (by omega)
          obtain ⟨x0, x1, x2, x3⟩ := hf j (by omega)
          have y0 : wr.cell? ⟨b', o' + j * 7, none⟩ = some (.pointer none) := hf' j 0 hlt (by omega)
          have y1 : wr.cell? ⟨b', o' + j * 7 + 1, none⟩ = some (.string (T j)) := hf' j 1 hlt (by omega)
          have y2 : wr.cell? ⟨b', o' + j * 7 + 2, none⟩ = some (.int .i32 (L j)) := hf' j 2 hlt (by omega)
          have y3 : wr.cell? ⟨b', o' + j * 7 + 3, none⟩ = some (.int .u32 0) := hf' j 3 hlt (by omega)
          have y4 : wr.cell? ⟨b', o' + j * 7 + 4, none⟩ = some (.int .u16 0) := hf' j 4 hlt (by omega)
          have y5 : wr.cell? ⟨b', o' + j * 7 + 5, none⟩ = some (.int .u8 (K j)) := hf' j 5 hlt (by omega)
          have y6 : wr.cell? ⟨b', o' + j * 7 + 6, none⟩ = some (.int .u8 (W j)) := hf' j 6 hlt (by omega)
          have ev : j = j := by omega
          have X0 : wr.cell? ⟨b, o + j * 4, none⟩ = some (.int .u8 (K j)) := by rw [← ev]; exact x0
          have X1 : wr.cell? ⟨b, o + j * 4 + 1, none⟩ = some (.string (T j)) := by rw [← ev]; exact x1
          have X2 : wr.cell? ⟨b, o + j * 4 + 2, none⟩ = some (.int .u8 (W j)) := by rw [← ev]; exact x2
          have X3 : wr.cell? ⟨b, o + j * 4 + 3, none⟩ = some (.int .i32 (L j)) := by rw [← ev]; exact x3
          clear x0 x1 x2 x3 ev hf hf'
          subst e2
          injection e1 with e1
          injection e1 with e1 e3
          subst e1 e3
          have q1 : (0 : Int) ≤ (j : Int) := by omega
          have q2 : (j : Int) < ((n - 0 : Nat) : Int) := by omega
          have q3 : (0 : Int) ≤ 0 + (j : Int) := by omega
          have q4 : 0 + (j : Int) < (n : Int) := by omega
          have q5 : IntKind.i64.wrap (0 + (j : Int)) = 0 + (j : Int) := IntWalk.i64_in _ (by omega)
          have q6 : (0 + (j : Int)).toNat = j := by omega
          have q7 : (j : Int) < (n : Int) := by omega
          have q8 : IntKind.i64.wrap (j : Int) = (j : Int) := IntWalk.i64_in _ (by omega)
          go_wp2_with fail
          have START := Lib.hid (show SI wr b (o + j * 4) b' (o' + j * 7) (T j) (L j) (K j) (W j) wr.drew from ⟨(Below.refl _ _).drew, hb, hb', X0, X1, X2, X3, y0, y1, y2, y3, y4, y5, y6⟩)
          have STEP := Lib.hid (fun w1 w2 (hc : SI wr b (o + j * 4) b' (o' + j * 7) (T j) (L j) (K j) (W j) w1) (hx : Below w1.heap.size w1 w2) => hc.step hx)
          clear X0 X1 X2 X3 y0 y1 y2 y3 y4 y5 y6
          go_region_held3 (fun w' => Below wr.heap.size wr w' ∧ b < wr.heap.size ∧ b' < wr.heap.size ∧ w'.cell? ⟨b, o + j * 4, none⟩ = some (.int .u8 (K j)) ∧ w'.cell? ⟨b, o + j * 4 + 1, none⟩ = some (.string (T j)) ∧ w'.cell? ⟨b, o + j * 4 + 2, none⟩ = some (.int .u8 (W j)) ∧ w'.cell? ⟨b, o + j * 4 + 3, none⟩ = some (.int .i32 (L j)) ∧ w'.cell? ⟨b', o' + j * 7, none⟩ = some (.pointer none) ∧ w'.cell? ⟨b', o' + j * 7 + 1, none⟩ = some (.string (T j)) ∧ w'.cell? ⟨b', o' + j * 7 + 2, none⟩ = some (.int .i32 (L j)) ∧ w'.cell? ⟨b', o' + j * 7 + 3, none⟩ = some (.int .u32 0) ∧ w'.cell? ⟨b', o' + j * 7 + 4, none⟩ = some (.int .u16 0) ∧ w'.cell? ⟨b', o' + j * 7 + 5, none⟩ = some (.int .u8 (K j)) ∧ w'.cell? ⟨b', o' + j * 7 + 6, none⟩ = some (.int .u8 (W j)))
            (first | assumption | exact START.out)
            (first | (go_at_call 18; refine (same_any _ _ _ _ _).mono ?_; rintro e w9 ⟨rfl, hb9⟩; have hI := STEP.out _ _ (by assumption) hb9; clear hb9; unfold SI at hI))
          all_goals
            clear q5 q6 q8
            go_wp2_with fail
            go_roundw
            case rel =>
              have hb10 : Below wr.heap.size wr w9 := And.left (show SI wr b (o + j * 4) b' (o' + j * 7) (T j) (L j) (K j) (W j) w9 by assumption)
              exact ⟨j + 1, by omega, by go_num, Lib.hid (ZQ3.out.below hb10), Lib.hid (TQ3.out.below hb10), Lib.hid (BQ3.out.trans (hb10.mono BQ3.out.size))⟩
            case measure => simp [intOf]; omega
        · go_wp2_with fail
          go_ret
          exact ⟨rfl, BQ3.out⟩
    · go_wp2_with fail
      refine (width0 _).mono ?_
      rintro e w7 ⟨rfl, rfl⟩
      go_wp2_with fail
      refine (op0 (some ⟨b, o, none⟩) n c1 _).mono ?_
      rintro e w8 ⟨rfl, hb8⟩
      have ZQ2 := Lib.hid (ZQ.out.below hb8)
      have TQ2 := Lib.hid (TQ.out.below hb8)
      have BQ2 := Lib.hid (BQ.out.trans (hb8.mono BQ.out.size))
      clear hb8 ZQ TQ BQ
      have hne : (((n - 0 : Nat) : Int) != (n : Int) - 0) = false := by simp <;> omega
      have hwn : (0 : Int) ≤ (n : Int) := by omega
      go_wp2_with fail
      clear hne
      go_loopw [8] (fun i wr => ∃ j : Nat, j ≤ n - 0 ∧ i = .int .i64 j ∧ Hid (ZR wr (some ⟨b, o, none⟩) n K T W L) ∧ Hid (TR wr A3 (n - 0) (fun i j => tc K T W L (i + 0) j)) ∧ Hid (Below w.heap.size w wr)) (fun i _ => n - 0 - (intOf i).toNat)
      case atStart => exact ⟨0, Nat.zero_le _, rfl, ZQ2, TQ2, BQ2⟩
      case round =>
        obtain ⟨j, hj, rfl, ZQ3, TQ3, BQ3⟩ := hrel
        clear ZQ2 TQ2 BQ2
        by_cases hlt : j < n - 0
        · obtain ⟨b, o, e1, hb, hf⟩ := ZQ3.out (by omega)
          obtain ⟨b', o', e2, hb', hf'⟩ := TQ3.out (by omega)
          obtain ⟨x0, x1, x2, x3⟩ := hf j (by omega)
          have y0 : wr.cell? ⟨b', o' + j * 7, none⟩ = some (.pointer none) := hf' j 0 hlt (by omega)
          have y1 : wr.cell? ⟨b', o' + j * 7 + 1, none⟩ = some (.string (T j)) := hf' j 1 hlt (by omega)
          have y2 : wr.cell? ⟨b', o' + j * 7 + 2, none⟩ = some (.int .i32 (L j)) := hf' j 2 hlt (by omega)
          have y3 : wr.cell? ⟨b', o' + j * 7 + 3, none⟩ = some (.int .u32 0) := hf' j 3 hlt (by omega)
          have y4 : wr.cell? ⟨b', o' + j * 7 + 4, none⟩ = some (.int .u16 0) := hf' j 4 hlt (by omega)
          have y5 : wr.cell? ⟨b', o' + j * 7 + 5, none⟩ = some (.int .u8 (K j)) := hf' j 5 hlt (by omega)
          have y6 : wr.cell? ⟨b', o' + j * 7 + 6, none⟩ = some (.int .u8 (W j)) := hf' j 6 hlt (by omega)
          have ev : j = j := by omega
          have X0 : wr.cell? ⟨b, o + j * 4, none⟩ = some (.int .u8 (K j)) := by rw [← ev]; exact x0
          have X1 : wr.cell? ⟨b, o + j * 4 + 1, none⟩ = some (.string (T j)) := by rw [← ev]; exact x1
          have X2 : wr.cell? ⟨b, o + j * 4 + 2, none⟩ = some (.int .u8 (W j)) := by rw [← ev]; exact x2
          have X3 : wr.cell? ⟨b, o + j * 4 + 3, none⟩ = some (.int .i32 (L j)) := by rw [← ev]; exact x3
          clear x0 x1 x2 x3 ev hf hf'
          subst e2
          injection e1 with e1
          injection e1 with e1 e3
          subst e1 e3
          have q1 : (0 : Int) ≤ (j : Int) := by omega
          have q2 : (j : Int) < ((n - 0 : Nat) : Int) := by omega
          have q3 : (0 : Int) ≤ 0 + (j : Int) := by omega
          have q4 : 0 + (j : Int) < (n : Int) := by omega
          have q5 : IntKind.i64.wrap (0 + (j : Int)) = 0 + (j : Int) := IntWalk.i64_in _ (by omega)
          have q6 : (0 + (j : Int)).toNat = j := by omega
          have q7 : (j : Int) < (n : Int) := by omega
          have q8 : IntKind.i64.wrap (j : Int) = (j : Int) := IntWalk.i64_in _ (by omega)
          go_wp2_with fail
          have START := Lib.hid (show SI wr b (o + j * 4) b' (o' + j * 7) (T j) (L j) (K j) (W j) wr.drew from ⟨(Below.refl _ _).drew, hb, hb', X0, X1, X2, X3, y0, y1, y2, y3, y4, y5, y6⟩)
          have STEP := Lib.hid (fun w1 w2 (hc : SI wr b (o + j * 4) b' (o' + j * 7) (T j) (L j) (K j) (W j) w1) (hx : Below w1.heap.size w1 w2) => hc.step hx)
          clear X0 X1 X2 X3 y0 y1 y2 y3 y4 y5 y6
          go_region_held3 (fun w' => Below wr.heap.size wr w' ∧ b < wr.heap.size ∧ b' < wr.heap.size ∧ w'.cell? ⟨b, o + j * 4, none⟩ = some (.int .u8 (K j)) ∧ w'.cell? ⟨b, o + j * 4 + 1, none⟩ = some (.string (T j)) ∧ w'.cell? ⟨b, o + j * 4 + 2, none⟩ = some (.int .u8 (W j)) ∧ w'.cell? ⟨b, o + j * 4 + 3, none⟩ = some (.int .i32 (L j)) ∧ w'.cell? ⟨b', o' + j * 7, none⟩ = some (.pointer none) ∧ w'.cell? ⟨b', o' + j * 7 + 1, none⟩ = some (.string (T j)) ∧ w'.cell? ⟨b', o' + j * 7 + 2, none⟩ = some (.int .i32 (L j)) ∧ w'.cell? ⟨b', o' + j * 7 + 3, none⟩ = some (.int .u32 0) ∧ w'.cell? ⟨b', o' + j * 7 + 4, none⟩ = some (.int .u16 0) ∧ w'.cell? ⟨b', o' + j * 7 + 5, none⟩ = some (.int .u8 (K j)) ∧ w'.cell? ⟨b', o' + j * 7 + 6, none⟩ = some (.int .u8 (W j)))
            (first | assumption | exact START.out)
            (first | (go_at_call 18; refine (same_any _ _ _ _ _).mono ?_; rintro e w9 ⟨rfl, hb9⟩; have hI := STEP.out _ _ (by assumption) hb9; clear hb9; unfold SI at hI))
          all_goals
            clear q5 q6 q8
            go_wp2_with fail
            go_roundw
            case rel =>
              have hb10 : Below wr.heap.size wr w9 := And.left (show SI wr b (o + j * 4) b' (o' + j * 7) (T j) (L j) (K j) (W j) w9 by assumption)
              exact ⟨j + 1, by omega, by go_num, Lib.hid (ZQ3.out.below hb10), Lib.hid (TQ3.out.below hb10), Lib.hid (BQ3.out.trans (hb10.mono BQ3.out.size))⟩
            case measure => simp [intOf]; omega
        · go_wp2_with fail
          go_ret
          exact ⟨rfl, BQ3.out⟩
end Go.Proofs.Ytceafaddhbabhaa.ZT
