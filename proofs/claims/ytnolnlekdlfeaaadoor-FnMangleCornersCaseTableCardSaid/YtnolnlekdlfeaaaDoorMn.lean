/- FnMangleCornersCaseTable: the law, walked. -/
import Derived.Test.YtnolnlekdlfeaaaDoorMs
namespace Go.Proofs.YtnolnlekdlfeaaaDoor.ZT
open Go.RowKit Go.Proofs.YtnolnlekdlfeaaaDoor.TB
set_option linter.unusedVariables false
/-- What lies in memory when the shorthand has been run. -/
def RQ (n : Nat) (Q : Nat → Nat) (im mw : Bool) (l : Int) (d rg tb : Nat) (w' : World) : Prop :=
   (((¬ ∃ bs es, Acc n Q bs es) ∧ Tab w' rg 54 2 1 (rc (fun _ => some d) (fun _ => l)) ∧ Blk w' d 40 #[.string ⟨#[98, 111, 114, 100, 101, 114, 45, 114, 97, 100, 105, 117, 115]⟩, .slice (some ⟨tb, 0, none⟩) n n, .int .i32 l, .int .i32 13, .int .u16 66, .bool im] ∧ Tab w' tb 47 7 n (tc (fun i => kq (Q i)) (fun i => tq (Q i)) (fun _ => 0) (fun _ => 0))) ∨
    ∃ bs es, Acc n Q bs es ∧ ∃ d' L tg cp, Tab w' rg 54 2 1 (rc (fD (fun _ => some d) (fun _ => 0) d') (fL (fun _ => l) (fun _ => 0))) ∧
      Blk w' d' 40 #[.string ⟨#[98, 111, 114, 100, 101, 114, 45, 114, 97, 100, 105, 117, 115]⟩, .slice (some ⟨tg, 0, none⟩) L cp, .int .i32 l, .int .i32 13, .int .u16 66, .bool im] ∧ GS (SQ Q bs es n 0 4) mw w' tg L ∧ d ≠ d' ∧ ∃ cs, Blk w' d 40 cs)
theorem GV.below {bb : Bool} {c1 c2 : Nat} {S : Nat → Cn} {mw : Bool} {w w' : World} {tg L : Nat} (h : GV bb c1 c2 S mw w tg L) (k : Below w.heap.size w w') : GV bb c1 c2 S mw w' tg L := by
  unfold GV at h ⊢
  split <;> rename_i hb
  · rw [if_pos hb] at h; exact ⟨h.1, h.2.below k⟩
  · rw [if_neg hb] at h; exact ⟨h.1, h.2.below k⟩
theorem RQ.below {n : Nat} {Q : Nat → Nat} {im mw : Bool} {l : Int} {d rg tb : Nat} {w w' : World} (h : RQ n Q im mw l d rg tb w) (hb : Below w.heap.size w w') : RQ n Q im mw l d rg tb w' := by
  rcases h with ⟨na, h1, h2, h3⟩ | ⟨bs, es, ac, d', L, tg, cp, h1, h2, h3, h4, cs, h5⟩
  · exact .inl ⟨na, h1.below hb h1.lt, h2.below hb h2.lt, h3.below hb h3.lt⟩
  · exact .inr ⟨bs, es, ac, d', L, tg, cp, h1.below hb h1.lt, h2.below hb h2.lt, GV.below h3 hb, h4, cs, h5.below hb h5.lt⟩
set_option maxRecDepth 100000 in
set_option maxHeartbeats 16000000 in
theorem law3 (A : Option Addr) (n c : Nat) (z : Nat → Int) (im mw : Bool) (l : Int) (w : World) (r : BR w A n z) (hA : A = none → n = 0) (hn : n ≤ maxLen) (hz : ∀ i, i < n → 0 ≤ z i ∧ z i ≤ 255) :
    Calls Tryd.prog 3 #[.slice A n c, .bool im, .bool mw, .int .i32 l] w fun e w' => e = .returned (.bool true) ∧ Below w.heap.size w w' := by
  obtain ⟨PP, hPP⟩ : ∃ PP : Ending → World → Prop, (fun e w' => e = .returned (.bool true) ∧ Below w.heap.size w w') = PP := ⟨_, rfl⟩
  have HPP := Lib.hid (show ∀ w', Below w.heap.size w w' → PP (.returned (.bool true)) w' from fun w' hb => by rw [← hPP]; exact ⟨rfl, hb⟩)
  rw [hPP]
  clear hPP
  have R := Lib.hid r
  have HZ := Lib.hid hz
  have HA := Lib.hid hA
  have C5 := Lib.hid (bytes5 A n c im mw l w hn)
  clear r hz hA
  obtain ⟨Q, HQQ⟩ : ∃ Q : Nat → Nat, Hid (∀ i, Q i = (z i).toNat % 8) := ⟨fun i => (z i).toNat % 8, Lib.hid (fun _ => rfl)⟩
  have HQ := Lib.hid (show ∀ i, i < n → Q i < 8 ∧ z i % 8 = (Q i : Int) from fun i hi => by
    have h1 := HZ.out i hi
    rw [HQQ.out i]
    omega)
  go_enter Tryd.func3, Tryd.ntmps3
  go_wp2_with fail
  refine C5.out.mono ?_
  rintro e w' ⟨rfl, rfl⟩
  clear C5
  by_cases q1 : n ≤ 1048576
  case neg =>
    rw [show decide (n ≤ 1048576) = false from decide_eq_false q1]
    go_wp2_with fail
    exact HPP.out _ (Below.refl _ _)
  rw [show decide (n ≤ 1048576) = true from decide_eq_true q1]
  by_cases q2 : 4096 < n
  · have q2' : (4096 : Int) < (n : Int) := by omega
    go_wp2_with fail
    exact HPP.out _ (Below.refl _ _)
  have q2' : ¬ (4096 : Int) < (n : Int) := by omega
  have C6 := Lib.hid (copy6 A n c z w R.out HA.out q1)
  go_wp2_with fail
  refine C6.out.mono ?_
  rintro e w1 ⟨D, dc, rfl, hr, hb⟩
  have R1 := Lib.hid hr
  have B1 := Lib.hid hb
  clear hr hb C6 R
  have C7 := Lib.hid (run7 D n dc z Q im mw l w1 R1.out (by omega) HZ.out HQ.out)
  go_wp2_with fail
  refine C7.out.mono ?_
  rintro e w2 ⟨d, rg, tb, rfl, hb, hc⟩
  have R2 := Lib.hid (R1.out.below hb)
  have B2 := Lib.hid (B1.out.trans (hb.mono B1.out.size))
  have HC := Lib.hid (show RQ n Q im mw l d rg tb w2 from hc)
  have KR := Lib.hid (Blk.new w2 30 #[.int .i32 l, .int .i32 13])
  have BK := Lib.hid (show Below w2.heap.size w2 (w2.alloc (.cells #[.int .i32 l, .int .i32 13] 30)) from (Below.refl _ _).alloc (Nat.le_refl _) _)
  clear hb hc C7 R1 B1
  go_wp2_with fail
  have R3 := Lib.hid (R2.out.below BK.out)
  have B3 := Lib.hid (B2.out.trans (BK.out.mono B2.out.size))
  have H3 := Lib.hid (HC.out.below BK.out)
  clear R2 B2 HC BK
  generalize w2.alloc (.cells #[.int .i32 l, .int .i32 13] 30) = W3 at *
  generalize w2.heap.size = krb at *
  go_loopw [13, 14, 15] (fun s p i wr => ∃ k s' p' : Nat, k ≤ n ∧ i = .int .i64 k ∧ s = .int .i64 s' ∧ p = .int .i64 p' ∧ Hid (SL n k Q s' p') ∧ wr = W3) (fun _ _ i _ => n - (intOf i).toNat)
  case atStart => exact ⟨0, 0, n, Nat.zero_le _, rfl, rfl, rfl, Lib.hid (SL.zero n Q), rfl⟩
  case round =>
    obtain ⟨k, s', p', hk, rfl, rfl, rfl, HS, hwr⟩ := hrel
    have hwr' := hwr.symm
    clear hwr
    subst hwr'
    have hsl := HS.out.le hk
    by_cases hlt : k < n
    · obtain ⟨b, o, e, hb, hc⟩ := R3.out (by omega)
      have x0 : W3.cell? ⟨b, o + k, none⟩ = some (.int .u8 (z k)) := hc k hlt
      subst e
      clear hc
      have r0 : (0 : Int) ≤ (k : Int) := by omega
      have r1 : (k : Int) < (n : Int) := by omega
      have ht : Int.tmod (z k) 8 = (Q k : Int) := by rw [Int.tmod_eq_emod_of_nonneg (HZ.out k hlt).1]; exact (HQ.out k hlt).2
      have hw1 : IntKind.i64.wrap ((s' : Int) + 1) = (s' : Int) + 1 := by rw [IntKind.wrap_i64]; omega
      by_cases h7 : Q k = 7
      · have e7 : (Q k : Int) = 7 := by omega
        rw [e7] at ht
        clear e7
        by_cases hs0 : s' = 0
        · have H2 := Lib.hid (HS.out.first hs0 h7)
          have hs0' : (s' : Int) = 0 := by omega
          go_wp2_with fail
          go_roundw
          case rel => exact ⟨k + 1, s' + 1, k, by omega, by go_num, by go_num, rfl, H2, trivial⟩
          case measure => simp [intOf]; omega
        · have H2 := Lib.hid (HS.out.next hlt hs0 h7)
          have hs0' : ¬ (s' : Int) = 0 := by omega
          go_wp2_with fail
          go_roundw
          case rel => exact ⟨k + 1, s' + 1, p', by omega, by go_num, by go_num, rfl, H2, trivial⟩
          case measure => simp [intOf]; omega
      · have H2 := Lib.hid (HS.out.other h7)
        obtain ⟨qq, hqq⟩ : ∃ qq : Int, (Q k : Int) = qq := ⟨_, rfl⟩
        have e7 : (qq == 7) = false := by rw [beq_eq_false_iff_ne]; omega
        rw [hqq] at ht
        clear hqq
        go_wp2_with fail
        go_roundw
        case rel => exact ⟨k + 1, s', p', by omega, by go_num, rfl, rfl, H2, trivial⟩
        case measure => simp [intOf]; omega
    · obtain rfl : n = k := by omega
      obtain ⟨af, HAF⟩ : ∃ af : Nat, Hid (af = if s' = 1 then n - p' - 1 else 0) := ⟨_, Lib.hid rfl⟩
      go_upto_if 70 with fail
      go_cut [17] from 71 to 74 (fun s wx => s = .int .i64 af ∧ wx = W3)
      case first =>
        by_cases h1 : s' = 1
        · have h1' : (s' : Int) = 1 := by omega
          have hp : p' < n := by rcases HS.out with ⟨h, _⟩ | ⟨_, h, _⟩ | ⟨h, _⟩ <;> omega
          have w1 : IntKind.i64.wrap ((n : Int) - (p' : Int)) = (n : Int) - (p' : Int) := by rw [IntKind.wrap_i64]; omega
          have w2 : IntKind.i64.wrap ((n : Int) - (p' : Int) - 1) = (af : Int) := by rw [IntKind.wrap_i64]; have := HAF.out; rw [if_pos h1] at this; omega
          go_wp2_with fail
          go_meet
          exact ⟨rfl, rfl⟩
        · have h1' : ¬ (s' : Int) = 1 := by omega
          have h0 : (0 : Int) = (af : Int) := by have := HAF.out; rw [if_neg h1] at this; omega
          have H0 := Lib.hid h0
          clear h0
          go_wp2_with fail
          go_meet
          exact ⟨by rw [H0.out], rfl⟩
      case rest =>
        obtain ⟨rfl, hwc⟩ := hcut
        have hwc' := hwc.symm
        clear hwc
        subst hwc'
        have haf : af ≤ n := by have := HAF.out; split at this <;> omega
        go_upto_region 21 with fail
        go_cut [80] from 75 to 80 (fun s wx => s = .bool (decide (p' < 1) || decide (4 < p')) ∧ wx = W3)
        case first =>
          by_cases h1 : p' < 1
          · have h1' : (p' : Int) < 1 := by omega
            go_wp2_with fail
            go_meet
            exact ⟨by simp [h1], rfl⟩
          · have h1' : ¬ (p' : Int) < 1 := by omega
            by_cases h2 : 4 < p'
            · have h2' : (4 : Int) < (p' : Int) := by omega
              go_wp2_with fail
              go_meet
              exact ⟨by simp [h1, h2], rfl⟩
            · have h2' : ¬ (4 : Int) < (p' : Int) := by omega
              go_wp2_with fail
              go_meet
              exact ⟨by simp [h1, h2], rfl⟩
        case rest =>
          obtain ⟨rfl, hwc⟩ := hcut
          have hwc' := hwc.symm
          clear hwc
          subst hwc'
          obtain ⟨b1, HB1⟩ : ∃ b1 : Bool, Hid ((decide (p' < 1) || decide (4 < p')) = b1) := ⟨_, Lib.hid rfl⟩
          rw [HB1.out]
          go_upto_if 80 with fail
          go_cut [16] (fun s wx => s = .bool (decide (s' ≤ 1) && !b1) ∧ wx = W3)
          case first =>
            cases b1
            · go_wp2_with fail
              go_meet
              exact ⟨by simp; omega, rfl⟩
            · go_wp2_with fail
              go_meet
              exact ⟨by simp, rfl⟩
          case rest =>
            obtain ⟨rfl, hwc⟩ := hcut
            have hwc' := hwc.symm
            clear hwc
            subst hwc'
            obtain ⟨a1, HA1⟩ : ∃ a1 : Bool, Hid ((decide (s' ≤ 1) && !b1) = a1) := ⟨_, Lib.hid rfl⟩
            rw [HA1.out]
            go_upto_region 23 with fail
            go_cut [90] from 81 to 90 (fun s wx => s = .bool (decide (s' = 1) && (decide (af < 1) || decide (4 < af))) ∧ wx = W3)
            case first =>
              by_cases h1 : s' = 1
              · have h1' : ((s' : Int) == 1) = true := by rw [h1]; rfl
                have H1 := Lib.hid h1
                clear h1
                by_cases h2 : af < 1
                · have h2' : (af : Int) < 1 := by omega
                  go_wp2_with fail
                  go_meet
                  exact ⟨by simp [H1.out, h2], rfl⟩
                · have h2' : ¬ (af : Int) < 1 := by omega
                  by_cases h3 : 4 < af
                  · have h3' : (4 : Int) < (af : Int) := by omega
                    go_wp2_with fail
                    go_meet
                    exact ⟨by simp [H1.out, h2, h3], rfl⟩
                  · have h3' : ¬ (4 : Int) < (af : Int) := by omega
                    go_wp2_with fail
                    go_meet
                    exact ⟨by simp [H1.out, h2, h3], rfl⟩
              · have h1' : ¬ (s' : Int) = 1 := by omega
                go_wp2_with fail
                go_meet
                exact ⟨by simp [h1], rfl⟩
            case rest =>
              obtain ⟨rfl, hwc⟩ := hcut
              have hwc' := hwc.symm
              clear hwc
              subst hwc'
              obtain ⟨b2, HB2⟩ : ∃ b2 : Bool, Hid ((decide (s' = 1) && (decide (af < 1) || decide (4 < af))) = b2) := ⟨_, Lib.hid rfl⟩
              rw [HB2.out]
              go_upto_if 90 with fail
              go_cut [16] (fun s wx => s = .bool (a1 && !b2) ∧ wx = W3)
              case first =>
                cases b2
                · go_wp2_with fail
                  go_meet
                  exact ⟨by simp, rfl⟩
                · go_wp2_with fail
                  go_meet
                  exact ⟨by simp, rfl⟩
              case rest =>
                obtain ⟨rfl, hwc⟩ := hcut
                have hwc' := hwc.symm
                clear hwc
                subst hwc'
                obtain ⟨a2, HA2⟩ : ∃ a2 : Bool, Hid ((a1 && !b2) = a2) := ⟨_, Lib.hid rfl⟩
                rw [HA2.out]
                go_wp2_with fail
                go_loopw [16, 18] (fun a i wr => ∃ k : Nat, k ≤ n ∧ i = .int .i64 k ∧ a = .bool (a2 && nb Q k) ∧ wr = W3) (fun _ i _ => n - (intOf i).toNat)
                case atStart => exact ⟨0, Nat.zero_le _, rfl, by simp [nb], rfl⟩
                case round =>
                  obtain ⟨k, hk, rfl, rfl, hwr⟩ := hrel
                  have hwr' := hwr.symm
                  clear hwr
                  subst hwr'
                  by_cases hlt : k < n
                  · obtain ⟨b, o, e, hb, hc⟩ := R3.out (by omega)
                    have x0 : W3.cell? ⟨b, o + k, none⟩ = some (.int .u8 (z k)) := hc k hlt
                    subst e
                    clear hc
                    have r0 : (0 : Int) ≤ (k : Int) := by omega
                    have r1 : (k : Int) < (n : Int) := by omega
                    have ht : Int.tmod (z k) 8 = (Q k : Int) := by rw [Int.tmod_eq_emod_of_nonneg (HZ.out k hlt).1]; exact (HQ.out k hlt).2
                    obtain ⟨an, HAN⟩ : ∃ an, Hid ((a2 && nb Q k) = an) := ⟨_, Lib.hid rfl⟩
                    rw [HAN.out]
                    obtain ⟨qk, HQK⟩ : ∃ qk, Hid (Q k = qk) := ⟨_, Lib.hid rfl⟩
                    rw [HQK.out] at ht
                    have HN := Lib.hid (show (a2 && nb Q (k + 1)) = (an && !(qk == 5 || qk == 6)) from by rw [nb, ← Bool.and_assoc, HAN.out, HQK.out])
                    by_cases h5 : qk = 5
                    · have e5 : ((qk : Int) == 5) = true := by rw [h5]; rfl
                      have HN2 := Lib.hid (show (a2 && nb Q (k + 1)) = false from by rw [HN.out, h5]; simp)
                      clear h5 HN
                      go_wp2_with fail
                      go_roundw
                      case rel => exact ⟨k + 1, by omega, by go_num, by rw [HN2.out], trivial⟩
                      case measure => simp [intOf]; omega
                    · have e5 : ((qk : Int) == 5) = false := by rw [beq_eq_false_iff_ne]; omega
                      by_cases h6 : qk = 6
                      · have e6 : ((qk : Int) == 6) = true := by rw [h6]; rfl
                        have HN2 := Lib.hid (show (a2 && nb Q (k + 1)) = false from by rw [HN.out, h6]; simp)
                        clear h5 h6 HN
                        go_wp2_with fail
                        go_roundw
                        case rel => exact ⟨k + 1, by omega, by go_num, by rw [HN2.out], trivial⟩
                        case measure => simp [intOf]; omega
                      · have e6 : ((qk : Int) == 6) = false := by rw [beq_eq_false_iff_ne]; omega
                        have HN2 := Lib.hid (show (a2 && nb Q (k + 1)) = an from by rw [HN.out]; simp [h5, h6])
                        clear h5 h6 HN
                        go_wp2_with fail
                        go_roundw
                        case rel => exact ⟨k + 1, by omega, by go_num, by rw [HN2.out], trivial⟩
                        case measure => simp [intOf]; omega
                  · obtain rfl : n = k := by omega
                    cases hac : (a2 && nb Q n)
                    case false =>
                      have NA := Lib.hid (SL.no HS.out HAF.out (by rw [HB1.out, HA1.out, HB2.out, HA2.out]; exact hac))
                      clear hac
                      rcases H3.out with ⟨-, t1, t2, t3⟩ | ⟨bs, es, ac, _⟩
                      case inr => exact absurd ⟨bs, es, ac⟩ NA.out
                      have DD := Lib.hid t2
                      have TT := Lib.hid t3
                      have KF := Lib.hid (fun t1' t2' => KJ.fresh t1 t1' t2')
                      have FB := Lib.hid (fun t1' t2' => (KJ.fresh t1 t1' t2').2)
                      clear t1 t2 t3 NA
                      go_wp2_with fail
                      refine (kept8 rg W3.heap.size (W3.heap.size + 1) _ _ _ _ _ _ 0 d l _ (KF.out _ _).1 (by omega) (by omega) (by omega)).mono ?_
                      rintro e w9 ⟨rfl, hb9⟩
                      have B9 := Lib.hid ((FB.out _ _).trans (hb9.mono (FB.out _ _).size))
                      clear hb9 KF FB
                      have d1 : w9.cell? ⟨d, 1, none⟩ = some (.slice (some ⟨tb, 0, none⟩) n n) := (B9.out.cell DD.out.lt).trans (DD.out.cell 1)
                      go_wp2_with fail
                      clear d1
                      go_loopw [20] (fun i wr => ∃ k : Nat, k ≤ n ∧ i = .int .i64 k ∧ Hid (Below W3.heap.size W3 wr)) (fun i _ => n - (intOf i).toNat)
                      case atStart => exact ⟨0, Nat.zero_le _, rfl, B9⟩
                      case round =>
                        clear B9
                        obtain ⟨k, hk, rfl, BB⟩ := hrel
                        by_cases hlt : k < n
                        · obtain ⟨b, o, e, hb, hc⟩ := R3.out (by omega)
                          have y0 : wr.cell? ⟨b, o + k, none⟩ = some (.int .u8 (z k)) := (BB.out.cell hb).trans (hc k hlt)
                          subst e
                          clear hc
                          have r0 : (0 : Int) ≤ (k : Int) := by omega
                          have r1 : (k : Int) < (n : Int) := by omega
                          obtain ⟨tk, HTK⟩ : ∃ tk, Hid (tq (Q k) = tk) := ⟨_, Lib.hid rfl⟩
                          obtain ⟨kk, HKK⟩ : ∃ kk, Hid (kq (Q k) = kk) := ⟨_, Lib.hid rfl⟩
                          have S9 := Lib.hid (fun W => same9q (z k) 0 (Q k) W (HQ.out k hlt).1 (HQ.out k hlt).2 (HZ.out k hlt).1 (HZ.out k hlt).2)
                          rw [HTK.out, HKK.out] at S9
                          have tl := TT.out.lt
                          have td := DD.out.lt
                          have hl := BB.out.size
                          have START := Lib.hid (show KT wr d tb k b o n tk kk (z k) wr.drew from ⟨(Below.refl _ _).drew, by omega, by omega, by omega, (BB.out.cell td).trans (DD.out.cell 1),
                            (BB.out.cell tl).trans (TT.out.cell (i := k) (j := 0) hlt (by omega)),
                            (BB.out.cell tl).trans ((TT.out.cell (i := k) (j := 1) hlt (by omega)).trans (by rw [← HTK.out]; rfl)),
                            (BB.out.cell tl).trans (TT.out.cell (i := k) (j := 2) hlt (by omega)),
                            (BB.out.cell tl).trans (TT.out.cell (i := k) (j := 3) hlt (by omega)),
                            (BB.out.cell tl).trans (TT.out.cell (i := k) (j := 4) hlt (by omega)),
                            (BB.out.cell tl).trans ((TT.out.cell (i := k) (j := 5) hlt (by omega)).trans (by rw [← HKK.out]; rfl)),
                            (BB.out.cell tl).trans (TT.out.cell (i := k) (j := 6) hlt (by omega)),
                            y0⟩)
                          generalize z k = yk at *
                          have STEP := Lib.hid (fun w1 w2 (h : KT wr d tb k b o n tk kk yk w1) (hb : Below w1.heap.size w1 w2) => h.step hb)
                          clear y0 tl td hl hb
                          go_wp2_with fail
                          go_region_held3 (fun w' => Below wr.heap.size wr w' ∧ d < wr.heap.size ∧ tb < wr.heap.size ∧ b < wr.heap.size ∧ w'.cell? ⟨d, 1, none⟩ = some (.slice (some ⟨tb, 0, none⟩) n n) ∧ w'.cell? ⟨tb, k * 7, none⟩ = some (.pointer none) ∧ w'.cell? ⟨tb, k * 7 + 1, none⟩ = some (.string tk) ∧ w'.cell? ⟨tb, k * 7 + 2, none⟩ = some (.int .i32 0) ∧ w'.cell? ⟨tb, k * 7 + 3, none⟩ = some (.int .u32 0) ∧ w'.cell? ⟨tb, k * 7 + 4, none⟩ = some (.int .u16 0) ∧ w'.cell? ⟨tb, k * 7 + 5, none⟩ = some (.int .u8 kk) ∧ w'.cell? ⟨tb, k * 7 + 6, none⟩ = some (.int .u8 0) ∧ w'.cell? ⟨b, o + k, none⟩ = some (.int .u8 yk))
                            (first | assumption | exact START.out)
                            (first | (go_at_call 9; refine (S9.out _).mono ?_; rintro e_ w9 ⟨rfl, hb9⟩; have hI := STEP.out _ _ (by assumption) hb9; clear hb9; unfold KT at hI))
                          all_goals
                            have BX := Lib.hid (BB.out.trans ((show KT wr d tb k b o n tk kk yk w9 by assumption).1.mono BB.out.size))
                            go_wp2_with fail
                            go_roundw
                            case rel => exact ⟨k + 1, by omega, by go_num, BX⟩
                            case measure => simp [intOf]; omega
                        · obtain rfl : n = k := by omega
                          go_wp2_with fail
                          exact HPP.out _ (B3.out.trans (BB.out.mono B3.out.size))
                    case true =>
                      have AC := Lib.hid (SL.yes HS.out HAF.out (by rw [HB1.out, HA1.out, HB2.out, HA2.out]; exact hac))
                      clear hac
                      rcases H3.out with ⟨na, _⟩ | ⟨bs, es, ac, d', L, tg, cp, h1, h2, h3, h4, cs, h5⟩
                      case inl => exact absurd ⟨_, _, AC.out⟩ na
                      obtain ⟨e1, e2⟩ := AC.out.1.uniq ac.1
                      obtain rfl : p' = bs := e1
                      have HES := Lib.hid e2
                      have AC2 := Lib.hid ac
                      have RG := Lib.hid h1
                      have DD := Lib.hid h2
                      have G3 := Lib.hid h3
                      have HP := Lib.hid (show 1 ≤ p' ∧ p' ≤ 4 ∧ p' ≤ n from ⟨ac.2.1.1, ac.2.1.2, (ac.1.le (Nat.le_refl _)).1⟩)
                      have NDD := Lib.hid h4
                      have OD := Lib.hid h5
                      clear e2 ac h1 h2 h3 h4 h5 H3 AC
                      obtain ⟨i0, hi, hz0, hz1, hz2⟩ := info_parts info5
                      have hmk := fun (W : World) => run_make (P := Tryd.prog) W 22 5 i0 _ Tryd.underlying22 hi hz0 .i64 .i64 p' p' (by omega) (by have := HP.out; omega) (by rw [hz2]; have := HP.out; omega) (by omega)
                      simp only [hz1, Int.toNat_natCast] at hmk
                      have T0 := Lib.hid (Tab.new W3 5 #[.int .u8 0] p' 1 rfl (fun i _ => if i < 0 then .int .u8 (Q i) else .int .u8 0) (fun i j _ hj => by (have h0 : j = 0 := by omega); subst h0; simp))
                      have B4 := Lib.hid (show Below W3.heap.size W3 (W3.alloc (.cells (madeCells #[.int .u8 0] (p' * 1)) 5)) from (Below.refl _ _).alloc (Nat.le_refl _) _)
                      rw [Nat.mul_one] at T0 B4
                      go_wp2_with fail
                      clear hmk
                      generalize W3.alloc (.cells (madeCells #[.int .u8 0] p') 5) = W4 at *
                      obtain ⟨fb, HFB⟩ : ∃ fb, W3.heap.size = fb := ⟨_, rfl⟩
                      simp only [HFB] at T0 ⊢
                      go_loopw [22] (fun i wr => ∃ k : Nat, k ≤ p' ∧ i = .int .i64 k ∧ Hid (Tab wr fb 5 1 p' (fun i _ => if i < k then .int .u8 (Q i) else .int .u8 0)) ∧ Hid (Below W3.heap.size W3 wr)) (fun i _ => p' - (intOf i).toNat)
                      case atStart => exact ⟨0, Nat.zero_le _, rfl, T0, B4⟩
                      case round =>
                        obtain ⟨k, hk, rfl, TT, BB⟩ := hrel
                        clear T0 B4
                        by_cases hlt : k < p'
                        · have hkn : k < n := by have := HP.out; omega
                          obtain ⟨b, o, e, hb, hc⟩ := R3.out (by omega)
                          have z0 : wr.cell? ⟨b, o + k, none⟩ = some (.int .u8 (z k)) := (BB.out.cell hb).trans (hc k hkn)
                          subst e
                          clear hc
                          have q1 : (0 : Int) ≤ (k : Int) := by omega
                          have q2 : (k : Int) < (n : Int) := by omega
                          have q3 : (k : Int) < (p' : Int) := by omega
                          have ht : Int.tmod (z k) 8 = (Q k : Int) := by rw [Int.tmod_eq_emod_of_nonneg (HZ.out k hkn).1]; exact (HQ.out k hkn).2
                          have y0 := tab1 TT.out hlt
                          simp only [Nat.lt_irrefl, if_false] at y0
                          have u0 := TT.out.frozen k
                          have TN := Lib.hid (one_step (F := fun i => .int .u8 (Q i)) TT.out hlt)
                          have BN := Lib.hid (show Below W3.heap.size W3 (wr.setCell ⟨fb, k, none⟩ (.int .u8 (Q k))) from BB.out.setCell (by rw [HFB]; exact Nat.le_refl _) _)
                          go_wp2_with fail
                          go_roundw
                          case rel => exact ⟨k + 1, by omega, by go_num, TN, BN⟩
                          case measure => simp [intOf]; omega
                        · obtain rfl : p' = k := by omega
                          obtain ⟨y1, HY1⟩ : ∃ y1 : Nat → Int, Hid (∀ i, y1 i = (qa Q p' i : Int)) := ⟨_, Lib.hid (fun _ => rfl)⟩
                          obtain ⟨y2, HY2⟩ : ∃ y2 : Nat → Int, Hid (∀ i, y2 i = (qb Q p' es n i : Int)) := ⟨_, Lib.hid (fun _ => rfl)⟩
                          have X1 := Lib.hid (show Calls Tryd.prog 10 #[.slice (some ⟨fb, 0, none⟩) p' p'] wr fun e w' => e = .returned (.agg #[.int .u8 (y1 0), .int .u8 (y1 1), .int .u8 (y1 2), .int .u8 (y1 3)]) ∧ Below wr.heap.size wr w' from by
                            have h := expand10 fb 0 p' p' (fun i => (Q i : Int)) wr HP.out.1 HP.out.2.1 TT.out.lt (fun i hi => by rw [Nat.zero_add, tab1 TT.out hi, if_pos hi])
                            rw [HY1.out 0, HY1.out 1, HY1.out 2, HY1.out 3]
                            exact h)
                          go_wp2_with fail
                          refine X1.out.mono ?_
                          rintro e w10 ⟨rfl, hb⟩
                          have B10 := Lib.hid (BB.out.trans (hb.mono BB.out.size))
                          clear hb BB TT X1
                          go_upto_if 171 with fail
                          obtain ⟨W11, hW11⟩ : ∃ W, (w10.alloc (.cells #[.int .u8 (y1 0), .int .u8 (y1 1), .int .u8 (y1 2), .int .u8 (y1 3)] 48)).alloc (.cells #[.int .u8 (y1 0), .int .u8 (y1 1), .int .u8 (y1 2), .int .u8 (y1 3)] 48) = W := ⟨_, rfl⟩
                          have K11 := Lib.hid (show Blk W11 w10.heap.size 48 #[.int .u8 (y1 0), .int .u8 (y1 1), .int .u8 (y1 2), .int .u8 (y1 3)] ∧ Blk W11 (w10.heap.size + 1) 48 #[.int .u8 (y1 0), .int .u8 (y1 1), .int .u8 (y1 2), .int .u8 (y1 3)] ∧ Below W3.heap.size W3 W11 from by
                            rw [← hW11]
                            exact ⟨(Blk.new w10 48 _).alloc _, by simpa using Blk.new (w10.alloc (.cells #[.int .u8 (y1 0), .int .u8 (y1 1), .int .u8 (y1 2), .int .u8 (y1 3)] 48)) 48 #[.int .u8 (y1 0), .int .u8 (y1 1), .int .u8 (y1 2), .int .u8 (y1 3)], (B10.out.alloc B10.out.size _).alloc (by simp; have := B10.out.size; omega) _⟩)
                          have HGE := Lib.hid B10.out.size
                          simp only [hW11]
                          clear hW11 B10
                          generalize w10.heap.size = g1 at *
                          have HEE := Lib.hid (show s' = 1 ∧ es = p' + 1 ∧ af = n - es ∧ 1 ≤ af ∧ af ≤ 4 ∧ es ≤ n ∨ s' ≠ 1 ∧ ∀ i, y2 i = y1 i from by
                            have h1 := HES.out
                            by_cases hs1 : s' = 1
                            · rw [if_pos hs1] at h1
                              have h2 := AC2.out.2.2.1 (by omega)
                              have h3 := HAF.out
                              rw [if_pos hs1] at h3
                              exact .inl ⟨hs1, by omega, by omega, by omega, by omega, by omega⟩
                            · rw [if_neg hs1] at h1
                              refine .inr ⟨hs1, fun i => ?_⟩
                              have hpn : p' = n := by
                                rcases HS.out with ⟨h, h2, _⟩ | ⟨h, _⟩ | ⟨_, _, _, h⟩
                                · exact h2
                                · exact absurd h hs1
                                · exact absurd h AC2.out.1.not_two
                              rw [HY1.out, HY2.out]
                              unfold qa qb
                              rw [if_neg (by omega)])
                          go_cut [25, 26] from 171 to 191 (fun s25 s26 wx => Hid (Blk wx g1 48 #[.int .u8 (y1 0), .int .u8 (y1 1), .int .u8 (y1 2), .int .u8 (y1 3)]) ∧ Hid (Blk wx (g1 + 1) 48 #[.int .u8 (y2 0), .int .u8 (y2 1), .int .u8 (y2 2), .int .u8 (y2 3)]) ∧ Hid (Below W3.heap.size W3 wx))
                          case first =>
                            rcases HEE.out with ⟨e1, e2, e3, e4, e5, e6⟩ | ⟨e1, e2⟩
                            case inr =>
                              have hs' : ((s' : Int) == 1) = false := by rw [beq_eq_false_iff_ne]; omega
                              have K := Lib.hid (show Blk W11 (g1 + 1) 48 #[.int .u8 (y2 0), .int .u8 (y2 1), .int .u8 (y2 2), .int .u8 (y2 3)] from by rw [e2, e2, e2, e2]; exact K11.out.2.1)
                              clear e2
                              go_wp2_with fail
                              go_meet
                              exact ⟨Lib.hid K11.out.1, K, Lib.hid K11.out.2.2⟩
                            case inl =>
                              have hs' : ((s' : Int) == 1) = true := by rw [e1]; rfl
                              have HE := Lib.hid (And.intro e2 (And.intro e3 (And.intro e4 (And.intro e5 e6))))
                              clear e1 e2 e3 e4 e5 e6
                              have hmk := fun (W : World) => run_make (P := Tryd.prog) W 22 5 i0 _ Tryd.underlying22 hi hz0 .i64 .i64 af af (by omega) (by have := HE.out; omega) (by rw [hz2]; have := HE.out; omega) (by omega)
                              simp only [hz1, Int.toNat_natCast] at hmk
                              have HWS := Lib.hid (wrap_small ((p' : Int) + 1) (by omega) (by have := HP.out; omega))
                              have T0 := Lib.hid (Tab.new W11 5 #[.int .u8 0] af 1 rfl (fun i _ => if i < 0 then .int .u8 (Q (es + i)) else .int .u8 0) (fun i j _ hj => by (have h0 : j = 0 := by omega); subst h0; simp))
                              have B4 := Lib.hid (show Below W11.heap.size W11 (W11.alloc (.cells (madeCells #[.int .u8 0] (af * 1)) 5)) from (Below.refl _ _).alloc (Nat.le_refl _) _)
                              rw [Nat.mul_one] at T0 B4
                              go_wp2_with fail
                              clear hmk
                              generalize W11.alloc (.cells (madeCells #[.int .u8 0] af) 5) = W12 at *
                              obtain ⟨fb2, HF2⟩ : ∃ fb2, W11.heap.size = fb2 := ⟨_, rfl⟩
                              simp only [HF2] at T0 ⊢
                              go_loopw [26] (fun i wr => ∃ k : Nat, k ≤ af ∧ i = .int .i64 k ∧ Hid (Tab wr fb2 5 1 af (fun i _ => if i < k then .int .u8 (Q (es + i)) else .int .u8 0)) ∧ Hid (Below W11.heap.size W11 wr)) (fun i _ => af - (intOf i).toNat)
                              case atStart => exact ⟨0, Nat.zero_le _, rfl, T0, B4⟩
                              case round =>
                                obtain ⟨k, hk, rfl, TT, BB⟩ := hrel
                                clear T0 B4
                                by_cases hlt : k < af
                                · obtain ⟨p, hp⟩ : ∃ p : Nat, (p' : Int) + 1 + (k : Int) = (p : Int) := ⟨p' + 1 + k, by omega⟩
                                  have hkn : p < n := by have := HE.out; omega
                                  have hpe : p = es + k := by have := HE.out; omega
                                  obtain ⟨b, o, e, hb, hc⟩ := R3.out (by omega)
                                  have z0 : wr.cell? ⟨b, o + p, none⟩ = some (.int .u8 (z p)) := ((K11.out.2.2.trans (BB.out.mono K11.out.2.2.size)).cell hb).trans (hc p hkn)
                                  subst e
                                  clear hc
                                  have q1 : (0 : Int) ≤ (k : Int) := by omega
                                  have q2 : (p : Int) < (n : Int) := by omega
                                  have q3 : (k : Int) < (af : Int) := by omega
                                  have q4 : (0 : Int) ≤ (p : Int) := by omega
                                  have ht : Int.tmod (z p) 8 = (Q p : Int) := by rw [Int.tmod_eq_emod_of_nonneg (HZ.out p hkn).1]; exact (HQ.out p hkn).2
                                  have y0 := tab1 TT.out hlt
                                  simp only [Nat.lt_irrefl, if_false] at y0
                                  have u0 := TT.out.frozen k
                                  have TN := Lib.hid (show Tab (wr.setCell ⟨fb2, k, none⟩ (.int .u8 (Q p))) fb2 5 1 af (fun i _ => if i < k + 1 then .int .u8 (Q (es + i)) else .int .u8 0) from by rw [hpe]; exact one_step (F := fun i => .int .u8 (Q (es + i))) TT.out hlt)
                                  have BN := Lib.hid (show Below W11.heap.size W11 (wr.setCell ⟨fb2, k, none⟩ (.int .u8 (Q p))) from BB.out.setCell (by rw [HF2]; exact Nat.le_refl _) _)
                                  have hms := Lib.hid (show af - (k + 1) < af - k from by omega)
                                  obtain ⟨hw2, hw3⟩ : wrap64 ((p' : Int) + 1 + (k : Int)) = (p : Int) ∧ IntKind.i64.wrap ((p' : Int) + 1 + (k : Int)) = (p : Int) := by rw [hp]; exact wrap_small _ (by omega) (by omega)
                                  obtain ⟨hw0, hw1⟩ := HWS.out
                                  clear hp hpe
                                  go_wp2_with fail
                                  go_roundw
                                  case rel => exact ⟨k + 1, hlt, by go_num, TN, BN⟩
                                  case measure => simp only [intOf, Int.toNat_natCast]; exact hms.out
                                · obtain rfl : af = k := by omega
                                  have X1 := Lib.hid (show Calls Tryd.prog 10 #[.slice (some ⟨fb2, 0, none⟩) af af] wr fun e w' => e = .returned (.agg #[.int .u8 (y2 0), .int .u8 (y2 1), .int .u8 (y2 2), .int .u8 (y2 3)]) ∧ Below wr.heap.size wr w' from by
                                    have h := expand10 fb2 0 af af (fun i => (Q (es + i) : Int)) wr HE.out.2.2.1 HE.out.2.2.2.1 TT.out.lt (fun i hi => by rw [Nat.zero_add, tab1 TT.out hi, if_pos hi])
                                    rw [HY2.out 0, HY2.out 1, HY2.out 2, HY2.out 3]
                                    unfold qb
                                    rw [if_pos (by have := HE.out; omega), if_pos (by have := HE.out; omega), if_pos (by have := HE.out; omega), if_pos (by have := HE.out; omega), ← HE.out.2.1]
                                    exact h)
                                  have A1 := Lib.hid (fun w' (hb : Below wr.heap.size wr w') => show Blk w' g1 48 #[.int .u8 (y1 0), .int .u8 (y1 1), .int .u8 (y1 2), .int .u8 (y1 3)] ∧ Blk w' (g1 + 1) 48 #[.int .u8 (y1 0), .int .u8 (y1 1), .int .u8 (y1 2), .int .u8 (y1 3)] ∧ Below W3.heap.size W3 w' from by
                                    have h2 := BB.out.trans (hb.mono BB.out.size)
                                    exact ⟨K11.out.1.below h2 K11.out.1.lt, K11.out.2.1.below h2 K11.out.2.1.lt, K11.out.2.2.trans (h2.mono K11.out.2.2.size)⟩)
                                  go_wp2_with fail
                                  refine X1.out.mono ?_
                                  rintro e w12 ⟨rfl, hb⟩
                                  have A2 := Lib.hid (A1.out _ hb)
                                  clear hb A1 X1 TT BB
                                  have a0 : w12.cell? ⟨g1 + 1, 0, none⟩ = some (.int .u8 (y1 0)) := A2.out.2.1.cell 0
                                  have a1 : w12.cell? ⟨g1 + 1, 1, none⟩ = some (.int .u8 (y1 1)) := A2.out.2.1.cell 1
                                  have a2 : w12.cell? ⟨g1 + 1, 2, none⟩ = some (.int .u8 (y1 2)) := A2.out.2.1.cell 2
                                  have a3 : w12.cell? ⟨g1 + 1, 3, none⟩ = some (.int .u8 (y1 3)) := A2.out.2.1.cell 3
                                  have f0 := A2.out.2.1.frozen 0
                                  have f1 := A2.out.2.1.frozen 1
                                  have f2 := A2.out.2.1.frozen 2
                                  have f3 := A2.out.2.1.frozen 3
                                  go_wp2_with fail
                                  go_meet
                                  exact ⟨Lib.hid ((((A2.out.1.far (by simp) _).far (by simp) _).far (by simp) _).far (by simp) _), Lib.hid (put4 A2.out.2.1), Lib.hid (((((A2.out.2.2.setCell (by have := HGE.out; simp; omega) _).setCell (by have := HGE.out; simp; omega) _).setCell (by have := HGE.out; simp; omega) _).setCell (by have := HGE.out; simp; omega) _))⟩
                          case rest =>
                            obtain ⟨KA, KB, BC⟩ := hcut
                            clear K11 HEE HGE HFB
                            obtain ⟨v, HV⟩ : ∃ v, Hid (v = mloc l 4) := ⟨_, Lib.hid rfl⟩
                            have r0 : wc.cell? ⟨rg, 0, none⟩ = some (.iface 25 (.pointer (some ⟨d', 0, none⟩))) := (BC.out.cell RG.out.lt).trans (RG.out.cell (i := 0) (j := 0) (by omega) (by omega))
                            have r1 : wc.cell? ⟨rg, 1, none⟩ = some (.int .i32 v) := (BC.out.cell RG.out.lt).trans ((RG.out.cell (i := 0) (j := 1) (by omega) (by omega)).trans (by rw [HV.out, ← fl_mloc]; rfl))
                            obtain ⟨j40, h40, -⟩ := info_parts info40
                            have EQO := Lib.hid (fun (W : World) (hb : Below W3.heap.size W3 W) => show (binOp .eql 25 (.pointer (some ⟨d', 0, none⟩)) (.pointer (some ⟨d, 0, none⟩))).run Tryd.prog W = .ok (.bool false) W from other40 (DD.out.below hb DD.out.lt) (OD.out.below hb OD.out.lt) NDD.out)
                            go_wp2_with fail
                            refine (decl11 d' v _).mono ?_
                            rintro e w13 ⟨rfl, hb⟩
                            have BD := Lib.hid (BC.out.trans (hb.mono BC.out.size))
                            have KC := Lib.hid (KA.out.below hb KA.out.lt)
                            have KD := Lib.hid (KB.out.below hb KB.out.lt)
                            clear hb r0 r1 KA KB BC
                            have eqo := EQO.out _ BD.out
                            have r1 : w13.cell? ⟨rg, 1, none⟩ = some (.int .i32 v) := (BD.out.cell RG.out.lt).trans ((RG.out.cell (i := 0) (j := 1) (by omega) (by omega)).trans (by rw [HV.out, ← fl_mloc]; rfl))
                            go_upto_region 59 with fail
                            go_cut [212] from 203 to 212 (fun s wx => s = .bool false ∧ Hid (Below W3.heap.size W3 wx) ∧ Hid (Below w13.heap.size w13 wx))
                            case first =>
                              have F12 := Lib.hid (fun (o : Obj) w9 (hb : Below ((w13.drew).alloc o).heap.size ((w13.drew).alloc o) w9) => show w9.cell? ⟨rg, 1, none⟩ = some (.int .i32 v) ∧ Below W3.heap.size W3 w9 ∧ Below w13.heap.size w13 w9 from by
                                have h1 : Below w13.heap.size w13 (w13.drew.alloc o) := (Below.refl _ _).drew.alloc (Nat.le_refl _) o
                                have h2 := h1.trans (hb.mono h1.size)
                                exact ⟨(h2.cell (World.block_lt_of_cell? w13 _ r1)).trans r1, BD.out.trans (h2.mono BD.out.size), h2⟩)
                              have ra : ∀ o, (w13.alloc o).cell? ⟨rg, 1, none⟩ = some (.int .i32 v) := fun o => ((show Below w13.heap.size w13 (w13.alloc o) from (Below.refl _ _).alloc (Nat.le_refl _) o).cell (World.block_lt_of_cell? w13 _ r1)).trans r1
                              have VM := HV.out
                              obtain ⟨mlv, HML⟩ : ∃ x, mloc l 4 = x := ⟨_, rfl⟩
                              have M12 := Lib.hid (fun (lb : Nat) (W : World) (hl : W.cell? ⟨lb, 0, none⟩ = some (.int .i32 l)) => show Calls Tryd.prog 12 #[.agg #[.int .i64 0, .int .i64 0, .int .i64 0, .int .i64 0], .slice (some ⟨lb, 0, none⟩) 1 1] W fun e w' => e = .returned (.int .i32 v) ∧ Below W.heap.size W w' from by
                                rw [HV.out]; exact minloc12 lb l W hl)
                              clear VM HML mlv HV
                              go_region_with (go_at_call 12; refine (M12.out w13.heap.size _ (by exact (Blk.new w13.drew _ _).cell 0)).mono ?_; rintro e w9 ⟨rfl, hb9⟩; have r9 := (F12.out _ _ hb9).1; have B9 := Lib.hid (F12.out _ _ hb9).2.1; have B8 := Lib.hid (F12.out _ _ hb9).2.2; clear hb9)
                              all_goals
                                go_wp2_with fail
                                go_meet
                                exact ⟨by simp, B9, B8⟩
                            case rest =>
                              obtain ⟨rfl, BE, BF⟩ := hcut
                              clear r1
                              have AS := acc_small AC2.out (fun i hi => (HQ.out i hi).1)
                              have A1 := Lib.hid (fun i hi => show qa Q p' i < 5 ∧ y1 i = (qa Q p' i : Int) from ⟨AS.1 i hi, HY1.out i⟩)
                              have A2 := Lib.hid (fun i hi => show qb Q p' es n i < 5 ∧ y2 i = (qb Q p' es n i : Int) from ⟨AS.2 i hi, HY2.out i⟩)
                              clear AS
                              obtain ⟨KK, TT, WW, t1, t2, t3⟩ := VP_of A1.out A2.out G3.out
                              have TG := Lib.hid t1
                              have C14 := Lib.hid (fun (W : World) (hb : Below W3.heap.size W3 W) => check14 tg 0 L cp mw y1 y2 (qa Q p') (qb Q p' es n) KK TT WW W (TG.out.below hb) t3
                                (fun i hi => by have h := A1.out i hi; refine ⟨by omega, by omega, ?_, by omega⟩; rw [h.2]; omega) (fun i hi => by have h := A2.out i hi; refine ⟨by omega, by omega, ?_, by omega⟩; rw [h.2]; omega) t2)
                              have C13 := Lib.hid (fun (W : World) (hb : Below W3.heap.size W3 W) => decl13 d' l (.slice (some ⟨tg, 0, none⟩) L cp) im W (DD.out.below hb DD.out.lt))
                              clear t1 t2 t3
                              have KE := Lib.hid (show Blk wc krb 30 #[.int .i32 l, .int .i32 13] from KR.out.below BE.out KR.out.lt)
                              have DE := Lib.hid (DD.out.below BE.out DD.out.lt)
                              have KA := Lib.hid (show Blk wc g1 48 #[.int .u8 (y1 0), .int .u8 (y1 1), .int .u8 (y1 2), .int .u8 (y1 3)] from KC.out.below (BF.out) KC.out.lt)
                              have KB := Lib.hid (show Blk wc (g1 + 1) 48 #[.int .u8 (y2 0), .int .u8 (y2 1), .int .u8 (y2 2), .int .u8 (y2 3)] from KD.out.below (BF.out) KD.out.lt)
                              generalize y1 0 = x0 at *
                              generalize y1 1 = x1 at *
                              generalize y1 2 = x2 at *
                              generalize y1 3 = x3 at *
                              generalize y2 0 = e0 at *
                              generalize y2 1 = e1 at *
                              generalize y2 2 = e2 at *
                              generalize y2 3 = e3 at *
                              have START := Lib.hid (show RZ wc krb d' g1 tg L cp l x0 x1 x2 x3 e0 e1 e2 e3 wc.drew from ⟨(Below.refl _ _).drew, KE.out.lt, DE.out.lt, KA.out.lt, KB.out.lt, KE.out.cell 0, KE.out.cell 1, DE.out.cell 1, KA.out.cell 0, KA.out.cell 1, KA.out.cell 2, KA.out.cell 3, KB.out.cell 0, KB.out.cell 1, KB.out.cell 2, KB.out.cell 3⟩)
                              have STEP := Lib.hid (fun w1 w2 (h : RZ wc krb d' g1 tg L cp l x0 x1 x2 x3 e0 e1 e2 e3 w1) (hb : Below w1.heap.size w1 w2) => h.step hb)
                              have BW := Lib.hid (fun w1 (h : RZ wc krb d' g1 tg L cp l x0 x1 x2 x3 e0 e1 e2 e3 w1) => BE.out.trans (h.1.mono BE.out.size))
                              clear KE DE KA KB
                              go_wp2_with fail
                              go_region_held3 (fun w' => Below wc.heap.size wc w' ∧ krb < wc.heap.size ∧ d' < wc.heap.size ∧ g1 < wc.heap.size ∧ g1 + 1 < wc.heap.size ∧ w'.cell? ⟨krb, 0, none⟩ = some (.int .i32 l) ∧ w'.cell? ⟨krb, 1, none⟩ = some (.int .i32 13) ∧ w'.cell? ⟨d', 1, none⟩ = some (.slice (some ⟨tg, 0, none⟩) L cp) ∧ w'.cell? ⟨g1, 0, none⟩ = some (.int .u8 x0) ∧ w'.cell? ⟨g1, 1, none⟩ = some (.int .u8 x1) ∧ w'.cell? ⟨g1, 2, none⟩ = some (.int .u8 x2) ∧ w'.cell? ⟨g1, 3, none⟩ = some (.int .u8 x3) ∧ w'.cell? ⟨g1 + 1, 0, none⟩ = some (.int .u8 e0) ∧ w'.cell? ⟨g1 + 1, 1, none⟩ = some (.int .u8 e1) ∧ w'.cell? ⟨g1 + 1, 2, none⟩ = some (.int .u8 e2) ∧ w'.cell? ⟨g1 + 1, 3, none⟩ = some (.int .u8 e3))
                                (first | assumption | exact START.out)
                                (first | (go_at_call 13; refine (C13.out _ (BW.out _ (by assumption))).mono ?_; rintro e_ w9 ⟨rfl, hb9⟩; have hI := STEP.out _ _ (by assumption) hb9; clear hb9; unfold RZ at hI) | (go_at_call 14; refine (C14.out _ (BW.out _ (by assumption))).mono ?_; rintro e_ w9 ⟨rfl, hb9⟩; have hI := STEP.out _ _ (by assumption) hb9; clear hb9; unfold RZ at hI))
                              all_goals
                                have BX := Lib.hid (BW.out w9 (by assumption))
                                go_wp2_with fail
                                exact HPP.out _ (B3.out.trans (BX.out.mono B3.out.size))
end Go.Proofs.YtnolnlekdlfeaaaDoor.ZT
