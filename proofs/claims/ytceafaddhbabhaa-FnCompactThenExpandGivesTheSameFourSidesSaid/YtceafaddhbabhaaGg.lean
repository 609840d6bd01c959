/- FnCompactThenExpandGivesTheSameFourSides: the walk. Printed by gen_compactlaw.py. -/
import Derived.Test.YtceafaddhbabhaaGe
import Derived.Deep.RegionHeld3
namespace Go.Proofs.Ytceafaddhbabhaa.ZT
open Go.RowKit Go.Proofs.Ytceafaddhbabhaa.TB
set_option linter.unusedVariables false
set_option maxRecDepth 100000 in
set_option maxHeartbeats 8000000 in
theorem law3_yes (A : Option Addr) (n c : Nat) (K : Nat → Int) (T : Nat → ByteArray) (W L : Nat → Int) (s : ByteArray) (mw : Bool) (w : World) (r : ZR w A n K T W L) (hA : A = none → n = 0) (hn : n ≤ 16384) (hs : s.size ≤ 1048576) (ho : okAll n s K T) :
    Calls Try.prog 3 #[.slice A n c, .string s, .bool mw] w fun e w' => e = .returned (.bool true) ∧ Below w.heap.size w w' := by
  have R := Lib.hid r
  have HO := Lib.hid ho
  clear r ho
  go_enter Try.func3, Try.ntmps3
  go_wp2_with fail
  refine (bytes7 A n c s mw K T W L _ R.out (by omega) (by omega)).mono ?_
  rintro e w' ⟨b1, rfl, rfl⟩
  cases b1
  · go_wp2_with fail
    go_ret
    exact ⟨rfl, Below.refl _ _⟩
  go_wp2_with fail
  refine (size_any A n c K T W L _ R.out hn).mono ?_
  rintro e w' ⟨N, ⟨hN0, hN1⟩, rfl, rfl⟩
  by_cases hN : 1048576 < N + s.size
  · go_wp2_with fail
    go_ret
    exact ⟨rfl, Below.refl _ _⟩
  go_wp2_with fail
  refine (clone_any A n c K T W L _ R.out hA hn).mono ?_
  rintro e w1 ⟨A1, c1, rfl, hc1, hz1, ha1, hb1⟩
  have Z1 := Lib.hid hz1
  have HA1 := Lib.hid ha1
  clear hz1 ha1 R
  go_wp2_with fail
  refine (toks_any A1 n c1 K T W L _ Z1.out HA1.out hn).mono ?_
  rintro e w2 ⟨A2, c2, rfl, hc2, hc2', ht2, ha2, hb2⟩
  have T2 := Lib.hid ht2
  clear ht2 ha2
  go_wp2_with fail
  refine (zzExp A2 n c2 s K T W L _ T2.out hc2 hc2').mono ?_
  rintro e w3 ⟨Q, bb, hq, rfl, hb3⟩
  have HQ := Lib.hid hq
  have BQ := Lib.hid ((hb1.trans (hb2.mono hb1.size)).trans (hb3.mono (Nat.le_trans hb1.size hb2.size)))
  have BN := Lib.hid (Blk.new w3 35 z28)
  unfold z28 at BN
  clear hb1 hb2 hb3 Z1 T2 HA1
  obtain ⟨hq1, rfl⟩ := hq.yes HO.out
  have HQ1 := Lib.hid hq1
  clear hq hq1
  have BF := Lib.hid (Blk.fill BN.out Q (by rw [HQ.out.size.1]; rfl))
  have BE := Lib.hid (below_fill (w := w3) (B := w3.heap.size) (w0 := w3) (g := w3.heap.size) Q.toList 0 ((Below.refl _ w3).alloc (Nat.le_refl _) (.cells #[.pointer none, .string { data := #[] }, .int .i32 0, .int .u32 0, .int .u16 0, .int .u8 0, .int .u8 0, .pointer none, .string { data := #[] }, .int .i32 0, .int .u32 0, .int .u16 0, .int .u8 0, .int .u8 0, .pointer none, .string { data := #[] }, .int .i32 0, .int .u32 0, .int .u16 0, .int .u8 0, .int .u8 0, .pointer none, .string { data := #[] }, .int .i32 0, .int .u32 0, .int .u16 0, .int .u8 0, .int .u8 0] 35)) (Nat.le_refl _))
  have BQE := Lib.hid (BQ.out.trans (BE.out.mono BQ.out.size))
  go_wp2_with (refine wpList_store_mid rfl 35 (.tmp 7) (.tmp 34) rfl w3.heap.size 0 Q rfl rfl (by rw [HQ.out.size.1]; exact Blk.there BN.out) (by rw [HQ.out.size.1]; exact info35) HQ.out.size.2 ?_; generalize (w3.alloc (.cells #[.pointer none, .string { data := #[] }, .int .i32 0, .int .u32 0, .int .u16 0, .int .u8 0, .int .u8 0, .pointer none, .string { data := #[] }, .int .i32 0, .int .u32 0, .int .u16 0, .int .u8 0, .int .u8 0, .pointer none, .string { data := #[] }, .int .i32 0, .int .u32 0, .int .u16 0, .int .u8 0, .int .u8 0, .pointer none, .string { data := #[] }, .int .i32 0, .int .u32 0, .int .u16 0, .int .u8 0, .int .u8 0] 35)).setCells w3.heap.size 0 Q.toList = W6 at *; generalize w3.heap.size = g at *; (have TB6 := Lib.hid (show Tab W6 g 35 7 4 (fun i j => tc K T W L (sel n i) j) from tab_q (by have h := BF.out; rw [HQ1.out] at h; exact h)));(have y00 : W6.cell? ⟨g, 0, none⟩ = some (.pointer none) := TB6.out.cell (i := 0) (by omega) (j := 0) (by omega)); (have y01 : W6.cell? ⟨g, 1, none⟩ = some (.string (T (sel n 0))) := TB6.out.cell (i := 0) (by omega) (j := 1) (by omega)); (have y02 : W6.cell? ⟨g, 2, none⟩ = some (.int .i32 (L (sel n 0))) := TB6.out.cell (i := 0) (by omega) (j := 2) (by omega)); (have y03 : W6.cell? ⟨g, 3, none⟩ = some (.int .u32 0) := TB6.out.cell (i := 0) (by omega) (j := 3) (by omega)); (have y04 : W6.cell? ⟨g, 4, none⟩ = some (.int .u16 0) := TB6.out.cell (i := 0) (by omega) (j := 4) (by omega)); (have y05 : W6.cell? ⟨g, 5, none⟩ = some (.int .u8 (K (sel n 0))) := TB6.out.cell (i := 0) (by omega) (j := 5) (by omega)); (have y06 : W6.cell? ⟨g, 6, none⟩ = some (.int .u8 (W (sel n 0))) := TB6.out.cell (i := 0) (by omega) (j := 6) (by omega)); (have y10 : W6.cell? ⟨g, 7, none⟩ = some (.pointer none) := TB6.out.cell (i := 1) (by omega) (j := 0) (by omega)); (have y11 : W6.cell? ⟨g, 8, none⟩ = some (.string (T (sel n 1))) := TB6.out.cell (i := 1) (by omega) (j := 1) (by omega)); (have y12 : W6.cell? ⟨g, 9, none⟩ = some (.int .i32 (L (sel n 1))) := TB6.out.cell (i := 1) (by omega) (j := 2) (by omega)); (have y13 : W6.cell? ⟨g, 10, none⟩ = some (.int .u32 0) := TB6.out.cell (i := 1) (by omega) (j := 3) (by omega)); (have y14 : W6.cell? ⟨g, 11, none⟩ = some (.int .u16 0) := TB6.out.cell (i := 1) (by omega) (j := 4) (by omega)); (have y15 : W6.cell? ⟨g, 12, none⟩ = some (.int .u8 (K (sel n 1))) := TB6.out.cell (i := 1) (by omega) (j := 5) (by omega)); (have y16 : W6.cell? ⟨g, 13, none⟩ = some (.int .u8 (W (sel n 1))) := TB6.out.cell (i := 1) (by omega) (j := 6) (by omega)); (have y20 : W6.cell? ⟨g, 14, none⟩ = some (.pointer none) := TB6.out.cell (i := 2) (by omega) (j := 0) (by omega)); (have y21 : W6.cell? ⟨g, 15, none⟩ = some (.string (T (sel n 2))) := TB6.out.cell (i := 2) (by omega) (j := 1) (by omega)); (have y22 : W6.cell? ⟨g, 16, none⟩ = some (.int .i32 (L (sel n 2))) := TB6.out.cell (i := 2) (by omega) (j := 2) (by omega)); (have y23 : W6.cell? ⟨g, 17, none⟩ = some (.int .u32 0) := TB6.out.cell (i := 2) (by omega) (j := 3) (by omega)); (have y24 : W6.cell? ⟨g, 18, none⟩ = some (.int .u16 0) := TB6.out.cell (i := 2) (by omega) (j := 4) (by omega)); (have y25 : W6.cell? ⟨g, 19, none⟩ = some (.int .u8 (K (sel n 2))) := TB6.out.cell (i := 2) (by omega) (j := 5) (by omega)); (have y26 : W6.cell? ⟨g, 20, none⟩ = some (.int .u8 (W (sel n 2))) := TB6.out.cell (i := 2) (by omega) (j := 6) (by omega)); (have y30 : W6.cell? ⟨g, 21, none⟩ = some (.pointer none) := TB6.out.cell (i := 3) (by omega) (j := 0) (by omega)); (have y31 : W6.cell? ⟨g, 22, none⟩ = some (.string (T (sel n 3))) := TB6.out.cell (i := 3) (by omega) (j := 1) (by omega)); (have y32 : W6.cell? ⟨g, 23, none⟩ = some (.int .i32 (L (sel n 3))) := TB6.out.cell (i := 3) (by omega) (j := 2) (by omega)); (have y33 : W6.cell? ⟨g, 24, none⟩ = some (.int .u32 0) := TB6.out.cell (i := 3) (by omega) (j := 3) (by omega)); (have y34 : W6.cell? ⟨g, 25, none⟩ = some (.int .u16 0) := TB6.out.cell (i := 3) (by omega) (j := 4) (by omega)); (have y35 : W6.cell? ⟨g, 26, none⟩ = some (.int .u8 (K (sel n 3))) := TB6.out.cell (i := 3) (by omega) (j := 5) (by omega)); (have y36 : W6.cell? ⟨g, 27, none⟩ = some (.int .u8 (W (sel n 3))) := TB6.out.cell (i := 3) (by omega) (j := 6) (by omega)))
  clear y00 y01 y02 y03 y04 y05 y06 y10 y11 y12 y13 y14 y15 y16 y20 y21 y22 y23 y24 y25 y26 y30 y31 y32 y33 y34 y35 y36 BF HQ1 HQ BN
  refine (zzCompact (fun i => K (sel n i)) (fun i => T (sel n i)) (fun i => W (sel n i)) (fun i => L (sel n i)) mw _).mono ?_
  rintro e w7 ⟨g2, W', rfl, hr7, hb7⟩
  have OB := Lib.hid (okAll_back HO.out)
  have CB := Lib.hid (cm_back (fun i => K (sel n i)) (fun i => T (sel n i)))
  have hm1 := (cm_ge (fun i => K (sel n i)) (fun i => T (sel n i))).1
  have hm4 := (cm_ge (fun i => K (sel n i)) (fun i => T (sel n i))).2
  have hmn := cm_le n HO.out.1 HO.out.2.1 K T
  have TR7 := Lib.hid hr7
  have TB7 := Lib.hid (TB6.out.below hb7 TB6.out.lt)
  have BW7 := Lib.hid (BQE.out.trans (hb7.mono BQE.out.size))
  clear hr7 hb7 TB6 BQ BE BQE HO
  generalize cm (fun i => K (sel n i)) (fun i => T (sel n i)) = m at *
  go_wp2_with fail
  refine (zzExp _ m 4 s (fun i => K (sel n i)) (fun i => T (sel n i)) W' (fun i => L (sel n i)) _ TR7.out hm4 (by omega)).mono ?_
  rintro e w8 ⟨Q2, bb, hq, rfl, hb8⟩
  have HQ := Lib.hid hq
  obtain ⟨hq1, rfl⟩ := hq.yes OB.out
  have HQ1 := Lib.hid hq1
  have TB8 := Lib.hid (TB7.out.below hb8 TB7.out.lt)
  have BW8 := Lib.hid (BW7.out.trans (hb8.mono BW7.out.size))
  have BN := Lib.hid (Blk.new w8 35 z28)
  unfold z28 at BN
  clear hq hq1 hb8 TB7 BW7 TR7 OB
  have BF := Lib.hid (Blk.fill BN.out Q2 (by rw [HQ.out.size.1]; rfl))
  have BE := Lib.hid (below_fill (w := w8) (B := w8.heap.size) (w0 := w8) (g := w8.heap.size) Q2.toList 0 ((Below.refl _ w8).alloc (Nat.le_refl _) (.cells #[.pointer none, .string { data := #[] }, .int .i32 0, .int .u32 0, .int .u16 0, .int .u8 0, .int .u8 0, .pointer none, .string { data := #[] }, .int .i32 0, .int .u32 0, .int .u16 0, .int .u8 0, .int .u8 0, .pointer none, .string { data := #[] }, .int .i32 0, .int .u32 0, .int .u16 0, .int .u8 0, .int .u8 0, .pointer none, .string { data := #[] }, .int .i32 0, .int .u32 0, .int .u16 0, .int .u8 0, .int .u8 0] 35)) (Nat.le_refl _))
  have TB9 := Lib.hid (TB8.out.below BE.out TB8.out.lt)
  have BQE := Lib.hid (BW8.out.trans (BE.out.mono BW8.out.size))
  clear BE TB8 BW8
  go_wp2_with (refine wpList_store_mid rfl 35 (.tmp 10) (.tmp 62) rfl w8.heap.size 0 Q2 rfl rfl (by rw [HQ.out.size.1]; exact Blk.there BN.out) (by rw [HQ.out.size.1]; exact info35) HQ.out.size.2 ?_; clear HQ BN; generalize (w8.alloc (.cells #[.pointer none, .string { data := #[] }, .int .i32 0, .int .u32 0, .int .u16 0, .int .u8 0, .int .u8 0, .pointer none, .string { data := #[] }, .int .i32 0, .int .u32 0, .int .u16 0, .int .u8 0, .int .u8 0, .pointer none, .string { data := #[] }, .int .i32 0, .int .u32 0, .int .u16 0, .int .u8 0, .int .u8 0, .pointer none, .string { data := #[] }, .int .i32 0, .int .u32 0, .int .u16 0, .int .u8 0, .int .u8 0] 35)).setCells w8.heap.size 0 Q2.toList = W9 at *; generalize w8.heap.size = g3 at *; (have TC9 := Lib.hid (show Tab W9 g3 35 7 4 (fun i j => tc (fun i => K (sel n i)) (fun i => T (sel n i)) W' (fun i => L (sel n i)) (sel m i) j) from tab_q (by have h := BF.out; rw [HQ1.out] at h; exact h))))
  clear BF HQ1
  go_loopw [12] (fun i wr => ∃ j : Nat, j ≤ 4 ∧ i = .int .i64 j ∧ Hid (Tab wr g 35 7 4 (fun i j => tc K T W L (sel n i) j)) ∧ Hid (Tab wr g3 35 7 4 (fun i j => tc (fun i => K (sel n i)) (fun i => T (sel n i)) W' (fun i => L (sel n i)) (sel m i) j)) ∧ Hid (Below w.heap.size w wr)) (fun i _ => 4 - (intOf i).toNat)
  case atStart => exact ⟨0, Nat.zero_le _, rfl, TB9, TC9, BQE⟩
  case round =>
    obtain ⟨j, hj, rfl, TJ, TK, BJ⟩ := hrel
    clear TB9 TC9 BQE
    by_cases hlt : j < 4
    · have q1 : (0 : Int) ≤ (j : Int) := by omega
      have q2 : (j : Int) < 4 := by omega
      have x5 : wr.cell? ⟨g, j * 7 + 5, none⟩ = some (.int .u8 (K (sel n j))) := TJ.out.cell hlt (j := 5) (by omega)
      have x1 : wr.cell? ⟨g, j * 7 + 1, none⟩ = some (.string (T (sel n j))) := TJ.out.cell hlt (j := 1) (by omega)
      have y5 : wr.cell? ⟨g3, j * 7 + 5, none⟩ = some (.int .u8 (K (sel n (sel m j)))) := TK.out.cell hlt (j := 5) (by omega)
      have y1 : wr.cell? ⟨g3, j * 7 + 1, none⟩ = some (.string (T (sel n (sel m j)))) := TK.out.cell hlt (j := 1) (by omega)
      have eK : K (sel n (sel m j)) = K (sel n j) := (CB.out j hlt).1
      have eT : ((T (sel n (sel m j))).toList == (T (sel n j)).toList) = true := (CB.out j hlt).2
      rw [eK] at y5
      go_wp2_with fail
      go_region_held3 (fun w' => w'.cell? ⟨g, j * 7 + 5, none⟩ = some (.int .u8 (K (sel n j))) ∧ w'.cell? ⟨g, j * 7 + 1, none⟩ = some (.string (T (sel n j))) ∧ w'.cell? ⟨g3, j * 7 + 5, none⟩ = some (.int .u8 (K (sel n j))) ∧ w'.cell? ⟨g3, j * 7 + 1, none⟩ = some (.string (T (sel n (sel m j)))))
        (first | assumption | exact ⟨x5, x1, y5, y1⟩)
        (fail)
      all_goals
        go_wp2_with fail
        go_roundw
        case rel => exact ⟨j + 1, by omega, by go_num, Lib.hid (TJ.out.below (Below.refl _ _).drew TJ.out.lt), Lib.hid (TK.out.below (Below.refl _ _).drew TK.out.lt), Lib.hid (BJ.out.trans ((Below.refl _ _).drew.mono BJ.out.size))⟩
        case measure => simp [intOf]; omega
    · go_wp2_with fail
      go_ret
      exact ⟨rfl, BJ.out⟩
end Go.Proofs.Ytceafaddhbabhaa.ZT
