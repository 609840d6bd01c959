/- FnExpandTokenQuadAcceptsExactlyOneToFourAllowedTokens: the walk. Printed by gen_expandlaw2.py. -/
import Derived.Test.YtceafaddhbabhaaFa
import Derived.Deep.RegionHeld3
namespace Go.Proofs.Ytceafaddhbabhaa.ZT
open Go.RowKit Go.Proofs.Ytceafaddhbabhaa.TB
set_option linter.unusedVariables false
set_option maxRecDepth 100000 in
set_option maxHeartbeats 8000000 in
theorem law5_nop (A : Option Addr) (n c : Nat) (K : Nat → Int) (T : Nat → ByteArray) (W L : Nat → Int) (s : ByteArray) (w : World) (r : ZR w A n K T W L) (hA : A = none → n = 0) (hn : n ≤ 16384) (hs : s.size ≤ 1048576) (ho : ¬ okAll n s K T) (hp : 1 ≤ n) :
    Calls Try.prog 5 #[.slice A n c, .string s] w fun e w' => e = .returned (.bool true) ∧ Below w.heap.size w w' := by
  have R := Lib.hid r
  have HO := Lib.hid ho
  clear r ho
  go_enter Try.func5, Try.ntmps5
  go_wp2_with fail
  refine (bytes19 A n c s K T W L _ R.out (by omega) (by omega)).mono ?_
  rintro e w' ⟨b1, rfl, rfl⟩
  cases b1
  · go_wp2_with fail
    go_ret
    exact ⟨rfl, Below.refl _ _⟩
  go_wp2_with fail
  refine (size_any A n c K T W L _ R.out hn).mono ?_
  rintro e w' ⟨N, ⟨hN0, hN1⟩, rfl, rfl⟩
  by_cases hN : 1048576 < N + s.size
  · go_wp2_with fail
    go_ret
    exact ⟨rfl, Below.refl _ _⟩
  go_wp2_with fail
  refine (clone_any A n c K T W L _ R.out hA hn).mono ?_
  rintro e w1 ⟨A1, c1, rfl, hc1, hz1, ha1, hb1⟩
  have Z1 := Lib.hid hz1
  have HA1 := Lib.hid ha1
  clear hz1 ha1 R
  go_wp2_with fail
  refine (toks_any A1 n c1 K T W L _ Z1.out HA1.out hn).mono ?_
  rintro e w2 ⟨A2, c2, rfl, hc2, hc2', ht2, ha2, hb2⟩
  have T2 := Lib.hid ht2
  clear ht2 ha2
  go_wp2_with fail
  refine (zzExp A2 n c2 s K T W L _ T2.out hc2 hc2').mono ?_
  rintro e w3 ⟨Q, bb, hq, rfl, hb3⟩
  have HQ := Lib.hid hq
  obtain ⟨hq1, rfl⟩ := hq.no HO.out
  have HQ1 := Lib.hid hq1
  have ZQ := Lib.hid ((Z1.out.below hb2).below hb3)
  have TQ := Lib.hid (T2.out.below hb3)
  have BQ := Lib.hid ((hb1.trans (hb2.mono hb1.size)).trans (hb3.mono (Nat.le_trans hb1.size hb2.size)))
  have BN := Lib.hid (Blk.new w3 35 z28)
  unfold z28 at BN
  clear hq hq1 hb1 hb2 hb3 Z1 T2 HA1
  go_wp2_with (refine wpList_store_mid rfl 35 (.tmp 6) (.tmp 36) rfl w3.heap.size 0 Q rfl rfl (by rw [HQ.out.size.1]; exact Blk.there BN.out) (by rw [HQ.out.size.1]; exact info35) HQ.out.size.2 ?_)
  have BF := Lib.hid (Blk.fill BN.out Q (by rw [HQ.out.size.1]; rfl))
  have BE := Lib.hid (below_fill (w := w3) (B := w3.heap.size) (w0 := w3) (g := w3.heap.size) Q.toList 0 ((Below.refl _ w3).alloc (Nat.le_refl _) (.cells #[.pointer none, .string { data := #[] }, .int .i32 0, .int .u32 0, .int .u16 0, .int .u8 0, .int .u8 0, .pointer none, .string { data := #[] }, .int .i32 0, .int .u32 0, .int .u16 0, .int .u8 0, .int .u8 0, .pointer none, .string { data := #[] }, .int .i32 0, .int .u32 0, .int .u16 0, .int .u8 0, .int .u8 0, .pointer none, .string { data := #[] }, .int .i32 0, .int .u32 0, .int .u16 0, .int .u8 0, .int .u8 0] 35)) (Nat.le_refl _))
  generalize (w3.alloc (.cells #[.pointer none, .string { data := #[] }, .int .i32 0, .int .u32 0, .int .u16 0, .int .u8 0, .int .u8 0, .pointer none, .string { data := #[] }, .int .i32 0, .int .u32 0, .int .u16 0, .int .u8 0, .int .u8 0, .pointer none, .string { data := #[] }, .int .i32 0, .int .u32 0, .int .u16 0, .int .u8 0, .int .u8 0, .pointer none, .string { data := #[] }, .int .i32 0, .int .u32 0, .int .u16 0, .int .u8 0, .int .u8 0] 35)).setCells w3.heap.size 0 Q.toList = W6 at *
  have TB6 := Lib.hid (show Tab W6 w3.heap.size 35 7 4 zf from tab_z (by have h := BF.out; rw [HQ1.out] at h; exact h))
  have ZQ6 := Lib.hid (ZQ.out.below BE.out)
  have TQ6 := Lib.hid (TQ.out.below BE.out)
  have BQ6 := Lib.hid (BQ.out.trans (BE.out.mono BQ.out.size))
  clear BF BE ZQ TQ BQ BN HQ HQ1
  generalize w3.heap.size = g at *
  go_loop [8, 9] (fun wnt i => ∃ (k : Nat) (b : Bool), k ≤ n ∧ i = .int .i64 k ∧ wnt = .bool b ∧ Hid ((b = true → 1 ≤ n ∧ n ≤ 4 ∧ ∀ i, i < k → okP s (K i) (T i)) ∧ (b = false → ¬ okAll n s K T))) (fun _ i => n - (intOf i).toNat)
  case atStart =>
    refine ⟨0, _, Nat.zero_le _, rfl, rfl, Lib.hid ⟨fun hb => ?_, fun hb => ?_⟩⟩
    · exact ⟨hp, by simp at hb; omega, fun i h => absurd h (by omega)⟩
    · exact fun ha => by have := ha.2.1; simp at hb; omega
  case round =>
    obtain ⟨k, b, hk, rfl, rfl, HH⟩ := hrel
    cases b
    · clear HH
      go_wp2_with fail
      go_loopw [11] (fun i wr => ∃ j : Nat, j ≤ 4 ∧ i = .int .i64 j ∧ Hid (Tab wr g 35 7 4 zf) ∧ Hid (Below w.heap.size w wr) ∧ Hid (g < wr.heap.size)) (fun i _ => 4 - (intOf i).toNat)
      case atStart => exact ⟨0, Nat.zero_le _, rfl, TB6, BQ6, Lib.hid TB6.out.lt⟩
      case round =>
        obtain ⟨j, hj, rfl, TJ, BJ, GJ⟩ := hrel
        by_cases hlt : j < 4
        · have y0 : wr.cell? ⟨g, j * 7, none⟩ = some (.pointer none) := TJ.out.cell hlt (j := 0) (by omega)
          have y1 : wr.cell? ⟨g, j * 7 + 1, none⟩ = some (.string { data := #[] }) := TJ.out.cell hlt (j := 1) (by omega)
          have y2 : wr.cell? ⟨g, j * 7 + 2, none⟩ = some (.int .i32 0) := TJ.out.cell hlt (j := 2) (by omega)
          have y3 : wr.cell? ⟨g, j * 7 + 3, none⟩ = some (.int .u32 0) := TJ.out.cell hlt (j := 3) (by omega)
          have y4 : wr.cell? ⟨g, j * 7 + 4, none⟩ = some (.int .u16 0) := TJ.out.cell hlt (j := 4) (by omega)
          have y5 : wr.cell? ⟨g, j * 7 + 5, none⟩ = some (.int .u8 0) := TJ.out.cell hlt (j := 5) (by omega)
          have y6 : wr.cell? ⟨g, j * 7 + 6, none⟩ = some (.int .u8 0) := TJ.out.cell hlt (j := 6) (by omega)
          have q1 : (0 : Int) ≤ (j : Int) := by omega
          have q2 : (j : Int) < 4 := by omega
          go_wp2_with (go_at_call 21; refine (zero21 _).mono ?_; rintro e w7 ⟨rfl, hb7⟩)
          go_roundw
          case rel => exact ⟨j + 1, by omega, by go_num, Lib.hid (TJ.out.below hb7 GJ.out), Lib.hid (BJ.out.trans (hb7.mono BJ.out.size)), Lib.hid (Nat.lt_of_lt_of_le GJ.out hb7.size)⟩
          case measure => simp [intOf]; omega
        · go_wp2_with fail
          go_ret
          exact ⟨rfl, BJ.out⟩
    · by_cases hlt : k < n
      · obtain ⟨b, o, rfl, hb, hf⟩ := ZQ6.out (by omega)
        obtain ⟨x0, x1, x2, x3⟩ := hf k hlt
        clear hf x2 x3
        have q1 : (0 : Int) ≤ (k : Int) := by omega
        have q2 : (k : Int) < (n : Int) := by omega
        have HNO := Lib.hid (fun (h : ¬ okP s (K k) (T k)) => show ¬ okAll n s K T from fun ha => h (ha.2.2 k hlt))
        have HYES := Lib.hid (fun (h : okP s (K k) (T k)) => show 1 ≤ n ∧ n ≤ 4 ∧ ∀ i, i < k + 1 → okP s (K i) (T i) from ⟨(HH.out.1 rfl).1, (HH.out.1 rfl).2.1, fun i hi => if e : i = k then by rw [e]; exact h else (HH.out.1 rfl).2.2 i (by omega)⟩)
        go_wp2_with (go_at_call 20; refine (num20 _ _).mono ?_; rintro e w' ⟨rfl, rfl⟩)
        · go_round
          case rel => exact ⟨k + 1, true, by omega, by go_num, rfl, Lib.hid ⟨fun _ => HYES.out (.inl (by assumption)), fun h => by cases h⟩⟩
          case measure => simp [intOf]; omega
        · go_round
          case rel => exact ⟨k + 1, false, by omega, by go_num, rfl, Lib.hid ⟨(fun h => by cases h), fun _ => HNO.out (fun h => by rcases h with h | ⟨_, h, _⟩; exact absurd h (by assumption); exact h (by assumption))⟩⟩
          case measure => simp [intOf]; omega
        · go_round
          case rel => exact ⟨k + 1, false, by omega, by go_num, rfl, Lib.hid ⟨(fun h => by cases h), fun _ => HNO.out (fun h => by rcases h with h | ⟨_, _, h⟩; exact absurd h (by assumption); exact isE (by assumption) (by assumption) h)⟩⟩
          case measure => simp [intOf]; omega
        · go_round
          case rel =>
            have hh : s.toList.isEmpty = false ∧ (!(T k).toList == s.toList) = false := by assumption
            exact ⟨k + 1, true, by omega, by go_num, rfl, Lib.hid ⟨fun _ => HYES.out (.inr ⟨by assumption, by assumption, by simpa using hh.2⟩), fun h => by cases h⟩⟩
          case measure => simp [intOf]; omega
        · go_round
          case rel => exact ⟨k + 1, false, by omega, by go_num, rfl, Lib.hid ⟨(fun h => by cases h), fun _ => HNO.out (fun h => by rcases h with h | ⟨h, _, _⟩; exact absurd h (by assumption); exact absurd h (by assumption))⟩⟩
          case measure => simp [intOf]; omega
      · exact absurd ⟨(HH.out.1 rfl).1, (HH.out.1 rfl).2.1, fun i hi => (HH.out.1 rfl).2.2 i (by omega)⟩ HO.out
set_option maxRecDepth 100000 in
set_option maxHeartbeats 8000000 in
theorem law5_noz (A : Option Addr) (n c : Nat) (K : Nat → Int) (T : Nat → ByteArray) (W L : Nat → Int) (s : ByteArray) (w : World) (r : ZR w A n K T W L) (hA : A = none → n = 0) (hn : n ≤ 16384) (hs : s.size ≤ 1048576) (ho : ¬ okAll n s K T) (hp : n < 1) :
    Calls Try.prog 5 #[.slice A n c, .string s] w fun e w' => e = .returned (.bool true) ∧ Below w.heap.size w w' := by
  have R := Lib.hid r
  have HO := Lib.hid ho
  clear r ho
  go_enter Try.func5, Try.ntmps5
  go_wp2_with fail
  refine (bytes19 A n c s K T W L _ R.out (by omega) (by omega)).mono ?_
  rintro e w' ⟨b1, rfl, rfl⟩
  cases b1
  · go_wp2_with fail
    go_ret
    exact ⟨rfl, Below.refl _ _⟩
  go_wp2_with fail
  refine (size_any A n c K T W L _ R.out hn).mono ?_
  rintro e w' ⟨N, ⟨hN0, hN1⟩, rfl, rfl⟩
  by_cases hN : 1048576 < N + s.size
  · go_wp2_with fail
    go_ret
    exact ⟨rfl, Below.refl _ _⟩
  go_wp2_with fail
  refine (clone_any A n c K T W L _ R.out hA hn).mono ?_
  rintro e w1 ⟨A1, c1, rfl, hc1, hz1, ha1, hb1⟩
  have Z1 := Lib.hid hz1
  have HA1 := Lib.hid ha1
  clear hz1 ha1 R
  go_wp2_with fail
  refine (toks_any A1 n c1 K T W L _ Z1.out HA1.out hn).mono ?_
  rintro e w2 ⟨A2, c2, rfl, hc2, hc2', ht2, ha2, hb2⟩
  have T2 := Lib.hid ht2
  clear ht2 ha2
  go_wp2_with fail
  refine (zzExp A2 n c2 s K T W L _ T2.out hc2 hc2').mono ?_
  rintro e w3 ⟨Q, bb, hq, rfl, hb3⟩
  have HQ := Lib.hid hq
  obtain ⟨hq1, rfl⟩ := hq.no HO.out
  have HQ1 := Lib.hid hq1
  have ZQ := Lib.hid ((Z1.out.below hb2).below hb3)
  have TQ := Lib.hid (T2.out.below hb3)
  have BQ := Lib.hid ((hb1.trans (hb2.mono hb1.size)).trans (hb3.mono (Nat.le_trans hb1.size hb2.size)))
  have BN := Lib.hid (Blk.new w3 35 z28)
  unfold z28 at BN
  clear hq hq1 hb1 hb2 hb3 Z1 T2 HA1
  go_wp2_with (refine wpList_store_mid rfl 35 (.tmp 6) (.tmp 36) rfl w3.heap.size 0 Q rfl rfl (by rw [HQ.out.size.1]; exact Blk.there BN.out) (by rw [HQ.out.size.1]; exact info35) HQ.out.size.2 ?_)
  have BF := Lib.hid (Blk.fill BN.out Q (by rw [HQ.out.size.1]; rfl))
  have BE := Lib.hid (below_fill (w := w3) (B := w3.heap.size) (w0 := w3) (g := w3.heap.size) Q.toList 0 ((Below.refl _ w3).alloc (Nat.le_refl _) (.cells #[.pointer none, .string { data := #[] }, .int .i32 0, .int .u32 0, .int .u16 0, .int .u8 0, .int .u8 0, .pointer none, .string { data := #[] }, .int .i32 0, .int .u32 0, .int .u16 0, .int .u8 0, .int .u8 0, .pointer none, .string { data := #[] }, .int .i32 0, .int .u32 0, .int .u16 0, .int .u8 0, .int .u8 0, .pointer none, .string { data := #[] }, .int .i32 0, .int .u32 0, .int .u16 0, .int .u8 0, .int .u8 0] 35)) (Nat.le_refl _))
  generalize (w3.alloc (.cells #[.pointer none, .string { data := #[] }, .int .i32 0, .int .u32 0, .int .u16 0, .int .u8 0, .int .u8 0, .pointer none, .string { data := #[] }, .int .i32 0, .int .u32 0, .int .u16 0, .int .u8 0, .int .u8 0, .pointer none, .string { data := #[] }, .int .i32 0, .int .u32 0, .int .u16 0, .int .u8 0, .int .u8 0, .pointer none, .string { data := #[] }, .int .i32 0, .int .u32 0, .int .u16 0, .int .u8 0, .int .u8 0] 35)).setCells w3.heap.size 0 Q.toList = W6 at *
  have TB6 := Lib.hid (show Tab W6 w3.heap.size 35 7 4 zf from tab_z (by have h := BF.out; rw [HQ1.out] at h; exact h))
  have ZQ6 := Lib.hid (ZQ.out.below BE.out)
  have TQ6 := Lib.hid (TQ.out.below BE.out)
  have BQ6 := Lib.hid (BQ.out.trans (BE.out.mono BQ.out.size))
  clear BF BE ZQ TQ BQ BN HQ HQ1
  generalize w3.heap.size = g at *
  go_loop [8, 9] (fun wnt i => ∃ (k : Nat) (b : Bool), k ≤ n ∧ i = .int .i64 k ∧ wnt = .bool b ∧ Hid ((b = true → 1 ≤ n ∧ n ≤ 4 ∧ ∀ i, i < k → okP s (K i) (T i)) ∧ (b = false → ¬ okAll n s K T))) (fun _ i => n - (intOf i).toNat)
  case atStart =>
    refine ⟨0, _, Nat.zero_le _, rfl, rfl, Lib.hid ⟨fun hb => ?_, fun hb => ?_⟩⟩
    · exact absurd hb (by simp)
    · exact fun ha => by have := ha.1; omega
  case round =>
    obtain ⟨k, b, hk, rfl, rfl, HH⟩ := hrel
    cases b
    · clear HH
      go_wp2_with fail
      go_loopw [11] (fun i wr => ∃ j : Nat, j ≤ 4 ∧ i = .int .i64 j ∧ Hid (Tab wr g 35 7 4 zf) ∧ Hid (Below w.heap.size w wr) ∧ Hid (g < wr.heap.size)) (fun i _ => 4 - (intOf i).toNat)
      case atStart => exact ⟨0, Nat.zero_le _, rfl, TB6, BQ6, Lib.hid TB6.out.lt⟩
      case round =>
        obtain ⟨j, hj, rfl, TJ, BJ, GJ⟩ := hrel
        by_cases hlt : j < 4
        · have y0 : wr.cell? ⟨g, j * 7, none⟩ = some (.pointer none) := TJ.out.cell hlt (j := 0) (by omega)
          have y1 : wr.cell? ⟨g, j * 7 + 1, none⟩ = some (.string { data := #[] }) := TJ.out.cell hlt (j := 1) (by omega)
          have y2 : wr.cell? ⟨g, j * 7 + 2, none⟩ = some (.int .i32 0) := TJ.out.cell hlt (j := 2) (by omega)
          have y3 : wr.cell? ⟨g, j * 7 + 3, none⟩ = some (.int .u32 0) := TJ.out.cell hlt (j := 3) (by omega)
          have y4 : wr.cell? ⟨g, j * 7 + 4, none⟩ = some (.int .u16 0) := TJ.out.cell hlt (j := 4) (by omega)
          have y5 : wr.cell? ⟨g, j * 7 + 5, none⟩ = some (.int .u8 0) := TJ.out.cell hlt (j := 5) (by omega)
          have y6 : wr.cell? ⟨g, j * 7 + 6, none⟩ = some (.int .u8 0) := TJ.out.cell hlt (j := 6) (by omega)
          have q1 : (0 : Int) ≤ (j : Int) := by omega
          have q2 : (j : Int) < 4 := by omega
          go_wp2_with (go_at_call 21; refine (zero21 _).mono ?_; rintro e w7 ⟨rfl, hb7⟩)
          go_roundw
          case rel => exact ⟨j + 1, by omega, by go_num, Lib.hid (TJ.out.below hb7 GJ.out), Lib.hid (BJ.out.trans (hb7.mono BJ.out.size)), Lib.hid (Nat.lt_of_lt_of_le GJ.out hb7.size)⟩
          case measure => simp [intOf]; omega
        · go_wp2_with fail
          go_ret
          exact ⟨rfl, BJ.out⟩
    · by_cases hlt : k < n
      · exact absurd hlt (by omega)
      · exact absurd ⟨(HH.out.1 rfl).1, (HH.out.1 rfl).2.1, fun i hi => (HH.out.1 rfl).2.2 i (by omega)⟩ HO.out
end Go.Proofs.Ytceafaddhbabhaa.ZT
