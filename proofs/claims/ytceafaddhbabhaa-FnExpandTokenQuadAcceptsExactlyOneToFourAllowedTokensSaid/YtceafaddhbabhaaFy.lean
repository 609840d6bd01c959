/- FnExpandTokenQuadAcceptsExactlyOneToFourAllowedTokens: the walk. Printed by gen_expandlaw2.py. -/
import Derived.Test.YtceafaddhbabhaaFa
import Derived.Deep.RegionHeld3
namespace Go.Proofs.Ytceafaddhbabhaa.ZT
open Go.RowKit Go.Proofs.Ytceafaddhbabhaa.TB
set_option linter.unusedVariables false
set_option maxRecDepth 100000 in
set_option maxHeartbeats 8000000 in
theorem law5_yes (A : Option Addr) (n c : Nat) (K : Nat → Int) (T : Nat → ByteArray) (W L : Nat → Int) (s : ByteArray) (w : World) (r : ZR w A n K T W L) (hA : A = none → n = 0) (hn : n ≤ 16384) (hs : s.size ≤ 1048576) (ho : okAll n s K T) :
    Calls Try.prog 5 #[.slice A n c, .string s] w fun e w' => e = .returned (.bool true) ∧ Below w.heap.size w w' := by
  have R := Lib.hid r
  have HO := Lib.hid ho
  clear r ho
  have h1 : 1 ≤ n := HO.out.1
  have h4 : n ≤ 4 := HO.out.2.1
  go_enter Try.func5, Try.ntmps5
  go_wp2_with fail
  refine (bytes19 A n c s K T W L _ R.out (by omega) (by omega)).mono ?_
  rintro e w' ⟨b1, rfl, rfl⟩
  cases b1
  · go_wp2_with fail
    go_ret
    exact ⟨rfl, Below.refl _ _⟩
  go_wp2_with fail
  refine (size_any A n c K T W L _ R.out hn).mono ?_
  rintro e w' ⟨N, ⟨hN0, hN1⟩, rfl, rfl⟩
  by_cases hN : 1048576 < N + s.size
  · go_wp2_with fail
    go_ret
    exact ⟨rfl, Below.refl _ _⟩
  go_wp2_with fail
  refine (clone_any A n c K T W L _ R.out hA hn).mono ?_
  rintro e w1 ⟨A1, c1, rfl, hc1, hz1, ha1, hb1⟩
  have Z1 := Lib.hid hz1
  have HA1 := Lib.hid ha1
  clear hz1 ha1 R
  go_wp2_with fail
  refine (toks_any A1 n c1 K T W L _ Z1.out HA1.out hn).mono ?_
  rintro e w2 ⟨A2, c2, rfl, hc2, hc2', ht2, ha2, hb2⟩
  have T2 := Lib.hid ht2
  clear ht2 ha2
  go_wp2_with fail
  refine (zzExp A2 n c2 s K T W L _ T2.out hc2 hc2').mono ?_
  rintro e w3 ⟨Q, bb, hq, rfl, hb3⟩
  have HQ := Lib.hid hq
  obtain ⟨hq1, rfl⟩ := hq.yes HO.out
  have HQ1 := Lib.hid hq1
  have ZQ := Lib.hid ((Z1.out.below hb2).below hb3)
  have TQ := Lib.hid (T2.out.below hb3)
  have BQ := Lib.hid ((hb1.trans (hb2.mono hb1.size)).trans (hb3.mono (Nat.le_trans hb1.size hb2.size)))
  have BN := Lib.hid (Blk.new w3 35 z28)
  unfold z28 at BN
  clear hq hq1 hb1 hb2 hb3 Z1 T2 HA1
  go_wp2_with (refine wpList_store_mid rfl 35 (.tmp 6) (.tmp 36) rfl w3.heap.size 0 Q rfl rfl (by rw [HQ.out.size.1]; exact Blk.there BN.out) (by rw [HQ.out.size.1]; exact info35) HQ.out.size.2 ?_)
  have BF := Lib.hid (Blk.fill BN.out Q (by rw [HQ.out.size.1]; rfl))
  have BE := Lib.hid (below_fill (w := w3) (B := w3.heap.size) (w0 := w3) (g := w3.heap.size) Q.toList 0 ((Below.refl _ w3).alloc (Nat.le_refl _) (.cells #[.pointer none, .string { data := #[] }, .int .i32 0, .int .u32 0, .int .u16 0, .int .u8 0, .int .u8 0, .pointer none, .string { data := #[] }, .int .i32 0, .int .u32 0, .int .u16 0, .int .u8 0, .int .u8 0, .pointer none, .string { data := #[] }, .int .i32 0, .int .u32 0, .int .u16 0, .int .u8 0, .int .u8 0, .pointer none, .string { data := #[] }, .int .i32 0, .int .u32 0, .int .u16 0, .int .u8 0, .int .u8 0] 35)) (Nat.le_refl _))
  generalize (w3.alloc (.cells #[.pointer none, .string { data := #[] }, .int .i32 0, .int .u32 0, .int .u16 0, .int .u8 0, .int .u8 0, .pointer none, .string { data := #[] }, .int .i32 0, .int .u32 0, .int .u16 0, .int .u8 0, .int .u8 0, .pointer none, .string { data := #[] }, .int .i32 0, .int .u32 0, .int .u16 0, .int .u8 0, .int .u8 0, .pointer none, .string { data := #[] }, .int .i32 0, .int .u32 0, .int .u16 0, .int .u8 0, .int .u8 0] 35)).setCells w3.heap.size 0 Q.toList = W6 at *
  have TB6 := Lib.hid (show Tab W6 w3.heap.size 35 7 4 (fun i j => tc K T W L (sel n i) j) from tab_q (by have h := BF.out; rw [HQ1.out] at h; exact h))
  have ZQ6 := Lib.hid (ZQ.out.below BE.out)
  have TQ6 := Lib.hid (TQ.out.below BE.out)
  have BQ6 := Lib.hid (BQ.out.trans (BE.out.mono BQ.out.size))
  clear BF BE ZQ TQ BQ BN HQ HQ1
  generalize w3.heap.size = g at *
  go_loop [8, 9] (fun wnt i => ∃ (k : Nat) (b : Bool), k ≤ n ∧ i = .int .i64 k ∧ wnt = .bool b ∧ Hid ((b = true → 1 ≤ n ∧ n ≤ 4 ∧ ∀ i, i < k → okP s (K i) (T i)) ∧ (b = false → ¬ okAll n s K T))) (fun _ i => n - (intOf i).toNat)
  case atStart =>
    refine ⟨0, _, Nat.zero_le _, rfl, rfl, Lib.hid ⟨fun _ => ⟨h1, h4, fun i h => absurd h (by omega)⟩, fun hf => ?_⟩⟩
    simp at hf; omega
  case round =>
    obtain ⟨k, b, hk, rfl, rfl, HH⟩ := hrel
    cases b
    · exact absurd HO.out (HH.out.2 rfl)
    · by_cases hlt : k < n
      · obtain ⟨b, o, rfl, hb, hf⟩ := ZQ6.out (by omega)
        obtain ⟨x0, x1, x2, x3⟩ := hf k hlt
        clear hf x2 x3
        have q1 : (0 : Int) ≤ (k : Int) := by omega
        have q2 : (k : Int) < (n : Int) := by omega
        have HNO := Lib.hid (fun (h : ¬ okP s (K k) (T k)) => show ¬ okAll n s K T from fun ha => h (ha.2.2 k hlt))
        have HYES := Lib.hid (fun (h : okP s (K k) (T k)) => show 1 ≤ n ∧ n ≤ 4 ∧ ∀ i, i < k + 1 → okP s (K i) (T i) from ⟨(HH.out.1 rfl).1, (HH.out.1 rfl).2.1, fun i hi => if e : i = k then by rw [e]; exact h else (HH.out.1 rfl).2.2 i (by omega)⟩)
        go_wp2_with (go_at_call 20; refine (num20 _ _).mono ?_; rintro e w' ⟨rfl, rfl⟩)
        · go_round
          case rel => exact ⟨k + 1, true, by omega, by go_num, rfl, Lib.hid ⟨fun _ => HYES.out (.inl (by assumption)), fun h => by cases h⟩⟩
          case measure => simp [intOf]; omega
        · go_round
          case rel => exact ⟨k + 1, false, by omega, by go_num, rfl, Lib.hid ⟨(fun h => by cases h), fun _ => HNO.out (fun h => by rcases h with h | ⟨_, h, _⟩; exact absurd h (by assumption); exact h (by assumption))⟩⟩
          case measure => simp [intOf]; omega
        · go_round
          case rel => exact ⟨k + 1, false, by omega, by go_num, rfl, Lib.hid ⟨(fun h => by cases h), fun _ => HNO.out (fun h => by rcases h with h | ⟨_, _, h⟩; exact absurd h (by assumption); exact isE (by assumption) (by assumption) h)⟩⟩
          case measure => simp [intOf]; omega
        · go_round
          case rel =>
            have hh : s.toList.isEmpty = false ∧ (!(T k).toList == s.toList) = false := by assumption
            exact ⟨k + 1, true, by omega, by go_num, rfl, Lib.hid ⟨fun _ => HYES.out (.inr ⟨by assumption, by assumption, by simpa using hh.2⟩), fun h => by cases h⟩⟩
          case measure => simp [intOf]; omega
        · go_round
          case rel => exact ⟨k + 1, false, by omega, by go_num, rfl, Lib.hid ⟨(fun h => by cases h), fun _ => HNO.out (fun h => by rcases h with h | ⟨h, _, _⟩; exact absurd h (by assumption); exact absurd h (by assumption))⟩⟩
          case measure => simp [intOf]; omega
      · obtain rfl : k = n := by omega
        clear HH hlt
        go_wp2_with fail
        go_loopw [12] (fun i wr => ∃ j : Nat, j ≤ 4 ∧ i = .int .i64 j ∧ Hid (Tab wr g 35 7 4 (fun i j => tc K T W L (sel k i) j)) ∧ Hid (TR wr A2 k (tc K T W L)) ∧ Hid (Below w.heap.size w wr) ∧ Hid (g < wr.heap.size)) (fun i _ => 4 - (intOf i).toNat)
        case atStart => exact ⟨0, Nat.zero_le _, rfl, TB6, TQ6, BQ6, Lib.hid TB6.out.lt⟩
        case round =>
          obtain ⟨j, hj, rfl, TJ, TT, BJ, GJ⟩ := hrel
          clear TB6 TQ6 BQ6 ZQ6
          by_cases hlt : j < 4
          · have gl := GJ.out
            have q1 : (0 : Int) ≤ (j : Int) := by omega
            have q2 : (j : Int) < 4 := by omega
            by_cases hjn : j < k
            · obtain ⟨b, o, rfl, hb, hf⟩ := TT.out (by omega)
              have q3 : (j : Int) < (k : Int) := by omega
              have es : sel k j = j := sel_self hjn
              have START := Lib.hid (show SJ wr g (j * 7) b (o + j * 7) (T j) (L j) (K j) (W j) (T j) (L j) (K j) (W j) wr.drew from by
                have h := fun c (hc : c < 7) => TJ.out.cell hlt hc
                simp only [es] at h
                exact ⟨(Below.refl _ _).drew, gl, hb, h 0 (by omega), h 1 (by omega), h 2 (by omega), h 3 (by omega), h 4 (by omega), h 5 (by omega), h 6 (by omega), hf j 0 hjn (by omega), hf j 1 hjn (by omega), hf j 2 hjn (by omega), hf j 3 hjn (by omega), hf j 4 hjn (by omega), hf j 5 hjn (by omega), hf j 6 hjn (by omega)⟩)
              have STEP := Lib.hid (fun w1 w2 (hc : SJ wr g (j * 7) b (o + j * 7) (T j) (L j) (K j) (W j) (T j) (L j) (K j) (W j) w1) (hx : Below w1.heap.size w1 w2) => hc.step hx)
              clear hf es
              go_wp2_with fail
              go_region_held3 (fun w' => Below wr.heap.size wr w' ∧ g < wr.heap.size ∧ b < wr.heap.size ∧ w'.cell? ⟨g, j * 7, none⟩ = some (.pointer none) ∧ w'.cell? ⟨g, j * 7 + 1, none⟩ = some (.string (T j)) ∧ w'.cell? ⟨g, j * 7 + 2, none⟩ = some (.int .i32 (L j)) ∧ w'.cell? ⟨g, j * 7 + 3, none⟩ = some (.int .u32 0) ∧ w'.cell? ⟨g, j * 7 + 4, none⟩ = some (.int .u16 0) ∧ w'.cell? ⟨g, j * 7 + 5, none⟩ = some (.int .u8 (K j)) ∧ w'.cell? ⟨g, j * 7 + 6, none⟩ = some (.int .u8 (W j)) ∧ w'.cell? ⟨b, o + j * 7, none⟩ = some (.pointer none) ∧ w'.cell? ⟨b, o + j * 7 + 1, none⟩ = some (.string (T j)) ∧ w'.cell? ⟨b, o + j * 7 + 2, none⟩ = some (.int .i32 (L j)) ∧ w'.cell? ⟨b, o + j * 7 + 3, none⟩ = some (.int .u32 0) ∧ w'.cell? ⟨b, o + j * 7 + 4, none⟩ = some (.int .u16 0) ∧ w'.cell? ⟨b, o + j * 7 + 5, none⟩ = some (.int .u8 (K j)) ∧ w'.cell? ⟨b, o + j * 7 + 6, none⟩ = some (.int .u8 (W j)))
                (first | assumption | exact START.out)
                (first | (go_at_call 22; refine (same22_eq _ _ _ _ _).mono ?_; rintro e w9 ⟨rfl, hb9⟩; have hI := STEP.out _ _ (by assumption) hb9; clear hb9; unfold SJ at hI))
              all_goals
                go_wp2_with fail
                go_roundw
                case rel =>
                  have hbx : Below wr.heap.size wr w9 := And.left (show SJ wr g (j * 7) b (o + j * 7) (T j) (L j) (K j) (W j) (T j) (L j) (K j) (W j) w9 by assumption)
                  exact ⟨j + 1, by omega, by go_num, Lib.hid (TJ.out.below hbx gl), Lib.hid (TT.out.below hbx), Lib.hid (BJ.out.trans (hbx.mono BJ.out.size)), Lib.hid (Nat.lt_of_lt_of_le gl hbx.size)⟩
                case measure => simp [intOf]; omega
            · go_wp2_with fail
              obtain ⟨wo, rfl⟩ : ∃ wo : World, wo = wr := ⟨_, rfl⟩
              go_loopw [13, 14] (fun fd i wr => ∃ (m : Nat) (fb : Bool), m ≤ k ∧ i = .int .i64 m ∧ fd = .bool fb ∧ Hid (sel k j < m → fb = true) ∧ Hid (Tab wr g 35 7 4 (fun i j => tc K T W L (sel k i) j)) ∧ Hid (TR wr A2 k (tc K T W L)) ∧ Hid (Below w.heap.size w wr) ∧ Hid (g < wr.heap.size)) (fun _ i _ => k - (intOf i).toNat)
              case atStart => exact ⟨0, false, Nat.zero_le _, rfl, rfl, Lib.hid (fun h => absurd h (by omega)), TJ, TT, BJ, GJ⟩
              case round =>
                obtain ⟨m, fb, hm, rfl, rfl, HF, TJ2, TT2, BJ2, GJ2⟩ := hrel
                clear TJ TT BJ GJ
                have gl2 := GJ2.out
                by_cases hmk : m < k
                · obtain ⟨b, o, rfl, hb, hf⟩ := TT2.out (by omega)
                  have q3 : (0 : Int) ≤ (m : Int) := by omega
                  have q4 : (m : Int) < (k : Int) := by omega
                  by_cases e : sel k j = m
                  · have START := Lib.hid (show SJ wr g (j * 7) b (o + m * 7) (T m) (L m) (K m) (W m) (T m) (L m) (K m) (W m) wr.drew from by
                      have h := fun c (hc : c < 7) => TJ2.out.cell hlt hc
                      simp only [e] at h
                      exact ⟨(Below.refl _ _).drew, gl2, hb, h 0 (by omega), h 1 (by omega), h 2 (by omega), h 3 (by omega), h 4 (by omega), h 5 (by omega), h 6 (by omega), hf m 0 hmk (by omega), hf m 1 hmk (by omega), hf m 2 hmk (by omega), hf m 3 hmk (by omega), hf m 4 hmk (by omega), hf m 5 hmk (by omega), hf m 6 hmk (by omega)⟩)
                    have STEP := Lib.hid (fun w1 w2 (hc : SJ wr g (j * 7) b (o + m * 7) (T m) (L m) (K m) (W m) (T m) (L m) (K m) (W m) w1) (hx : Below w1.heap.size w1 w2) => hc.step hx)
                    clear hf
                    go_wp2_with fail
                    go_region_held3 (fun w' => Below wr.heap.size wr w' ∧ g < wr.heap.size ∧ b < wr.heap.size ∧ w'.cell? ⟨g, j * 7, none⟩ = some (.pointer none) ∧ w'.cell? ⟨g, j * 7 + 1, none⟩ = some (.string (T m)) ∧ w'.cell? ⟨g, j * 7 + 2, none⟩ = some (.int .i32 (L m)) ∧ w'.cell? ⟨g, j * 7 + 3, none⟩ = some (.int .u32 0) ∧ w'.cell? ⟨g, j * 7 + 4, none⟩ = some (.int .u16 0) ∧ w'.cell? ⟨g, j * 7 + 5, none⟩ = some (.int .u8 (K m)) ∧ w'.cell? ⟨g, j * 7 + 6, none⟩ = some (.int .u8 (W m)) ∧ w'.cell? ⟨b, o + m * 7, none⟩ = some (.pointer none) ∧ w'.cell? ⟨b, o + m * 7 + 1, none⟩ = some (.string (T m)) ∧ w'.cell? ⟨b, o + m * 7 + 2, none⟩ = some (.int .i32 (L m)) ∧ w'.cell? ⟨b, o + m * 7 + 3, none⟩ = some (.int .u32 0) ∧ w'.cell? ⟨b, o + m * 7 + 4, none⟩ = some (.int .u16 0) ∧ w'.cell? ⟨b, o + m * 7 + 5, none⟩ = some (.int .u8 (K m)) ∧ w'.cell? ⟨b, o + m * 7 + 6, none⟩ = some (.int .u8 (W m)))
                      (first | assumption | exact START.out)
                      (first | (go_at_call 22; refine (same22_eq _ _ _ _ _).mono ?_; rintro e_ w9 ⟨rfl, hb9⟩; have hI := STEP.out _ _ (by assumption) hb9; clear hb9; unfold SJ at hI))
                    all_goals
                      go_wp2_with fail
                      go_roundw
                      case rel =>
                        have hbx : Below wr.heap.size wr w9 := And.left (show SJ wr g (j * 7) b (o + m * 7) (T m) (L m) (K m) (W m) (T m) (L m) (K m) (W m) w9 by assumption)
                        exact ⟨m + 1, true, by omega, by go_num, rfl, Lib.hid (fun _ => rfl), Lib.hid (TJ2.out.below hbx gl2), Lib.hid (TT2.out.below hbx), Lib.hid (BJ2.out.trans (hbx.mono BJ2.out.size)), Lib.hid (Nat.lt_of_lt_of_le gl2 hbx.size)⟩
                      case measure => simp [intOf]; omega
                  · have START := Lib.hid (show SJ wr g (j * 7) b (o + m * 7) (T (sel k j)) (L (sel k j)) (K (sel k j)) (W (sel k j)) (T m) (L m) (K m) (W m) wr.drew from by
                      have h := fun c (hc : c < 7) => TJ2.out.cell hlt hc
                      skip
                      exact ⟨(Below.refl _ _).drew, gl2, hb, h 0 (by omega), h 1 (by omega), h 2 (by omega), h 3 (by omega), h 4 (by omega), h 5 (by omega), h 6 (by omega), hf m 0 hmk (by omega), hf m 1 hmk (by omega), hf m 2 hmk (by omega), hf m 3 hmk (by omega), hf m 4 hmk (by omega), hf m 5 hmk (by omega), hf m 6 hmk (by omega)⟩)
                    have STEP := Lib.hid (fun w1 w2 (hc : SJ wr g (j * 7) b (o + m * 7) (T (sel k j)) (L (sel k j)) (K (sel k j)) (W (sel k j)) (T m) (L m) (K m) (W m) w1) (hx : Below w1.heap.size w1 w2) => hc.step hx)
                    clear hf
                    go_wp2_with fail
                    go_region_held3 (fun w' => Below wr.heap.size wr w' ∧ g < wr.heap.size ∧ b < wr.heap.size ∧ w'.cell? ⟨g, j * 7, none⟩ = some (.pointer none) ∧ w'.cell? ⟨g, j * 7 + 1, none⟩ = some (.string (T (sel k j))) ∧ w'.cell? ⟨g, j * 7 + 2, none⟩ = some (.int .i32 (L (sel k j))) ∧ w'.cell? ⟨g, j * 7 + 3, none⟩ = some (.int .u32 0) ∧ w'.cell? ⟨g, j * 7 + 4, none⟩ = some (.int .u16 0) ∧ w'.cell? ⟨g, j * 7 + 5, none⟩ = some (.int .u8 (K (sel k j))) ∧ w'.cell? ⟨g, j * 7 + 6, none⟩ = some (.int .u8 (W (sel k j))) ∧ w'.cell? ⟨b, o + m * 7, none⟩ = some (.pointer none) ∧ w'.cell? ⟨b, o + m * 7 + 1, none⟩ = some (.string (T m)) ∧ w'.cell? ⟨b, o + m * 7 + 2, none⟩ = some (.int .i32 (L m)) ∧ w'.cell? ⟨b, o + m * 7 + 3, none⟩ = some (.int .u32 0) ∧ w'.cell? ⟨b, o + m * 7 + 4, none⟩ = some (.int .u16 0) ∧ w'.cell? ⟨b, o + m * 7 + 5, none⟩ = some (.int .u8 (K m)) ∧ w'.cell? ⟨b, o + m * 7 + 6, none⟩ = some (.int .u8 (W m)))
                      (first | assumption | exact START.out)
                      (first | (go_at_call 22; refine (same22_any _ _ _ _ _ _ _ _ _).mono ?_; rintro e_ w9 ⟨sb, rfl, hb9⟩; have hI := STEP.out _ _ (by assumption) hb9; clear hb9; unfold SJ at hI))
                    all_goals
                      cases sb
                      · go_wp2_with fail
                        go_roundw
                        case rel =>
                          have hbx : Below wr.heap.size wr w9 := And.left (show SJ wr g (j * 7) b (o + m * 7) (T (sel k j)) (L (sel k j)) (K (sel k j)) (W (sel k j)) (T m) (L m) (K m) (W m) w9 by assumption)
                          exact ⟨m + 1, fb, by omega, by go_num, rfl, Lib.hid (fun h => HF.out (by omega)), Lib.hid (TJ2.out.below hbx gl2), Lib.hid (TT2.out.below hbx), Lib.hid (BJ2.out.trans (hbx.mono BJ2.out.size)), Lib.hid (Nat.lt_of_lt_of_le gl2 hbx.size)⟩
                        case measure => simp [intOf]; omega
                      · go_wp2_with fail
                        go_roundw
                        case rel =>
                          have hbx : Below wr.heap.size wr w9 := And.left (show SJ wr g (j * 7) b (o + m * 7) (T (sel k j)) (L (sel k j)) (K (sel k j)) (W (sel k j)) (T m) (L m) (K m) (W m) w9 by assumption)
                          exact ⟨m + 1, true, by omega, by go_num, rfl, Lib.hid (fun _ => rfl), Lib.hid (TJ2.out.below hbx gl2), Lib.hid (TT2.out.below hbx), Lib.hid (BJ2.out.trans (hbx.mono BJ2.out.size)), Lib.hid (Nat.lt_of_lt_of_le gl2 hbx.size)⟩
                        case measure => simp [intOf]; omega
                · have hfb : fb = true := HF.out (by have := sel_lt (n := k) (i := j) h1 h4; omega)
                  subst hfb
                  go_wp2_with fail
                  go_roundw
                  case rel => exact ⟨j + 1, by omega, by go_num, TJ2, TT2, BJ2, GJ2⟩
                  case measure => simp [intOf]; omega
          · go_wp2_with fail
            go_ret
            exact ⟨rfl, BJ.out⟩
end Go.Proofs.Ytceafaddhbabhaa.ZT
