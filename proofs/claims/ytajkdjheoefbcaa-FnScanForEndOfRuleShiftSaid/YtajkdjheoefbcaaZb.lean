/- The head of a custom property, and the model of the scanner, walked. -/
import Derived.Test.YtajkdjheoefbcaaZa
namespace Go.Proofs.Ytajkdjheoefbcaa.ZA
open Go.RowKit Go.Proofs.Ytajkdjheoefbcaa.TB Go.Proofs.Ytajkdjheoefbcaa.OW Go.Proofs.Ytajkdjheoefbcaa.PL
set_option linter.unusedVariables false
theorem W_here {k : Nat → Nat} {n j : Nat} (h : ¬ (j < n ∧ k j = 0)) : W k n j = j := by rw [W_eq, if_neg h]
theorem W_step {k : Nat → Nat} {n j : Nat} (h : j < n) (h0 : k j = 0) : W k n j = W k n (j + 1) := by rw [W_eq, if_pos ⟨h, h0⟩]
set_option maxRecDepth 100000 in
set_option maxHeartbeats 1000000 in
theorem headW (A : Option Addr) (n c : Nat) (z : Nat → Int) (hz : ∀ i, i < n → 0 ≤ z i ∧ z i ≤ 255) (hn : n ≤ 1048576) (i : Nat) (w : World) (hi : i ≤ n) (r : BR w A n z) :
    Calls Try.prog 17 #[.slice A n c, .int .i64 i] w fun e w' => e = .returned (.bool (CH (kl z) n i)) ∧ w = w' := by
  have HZ := Lib.hid hz
  have R := Lib.hid r
  clear hz r
  go_enter Try.func17, Try.ntmps17
  go_wp2
  go_loop [5] (fun s => ∃ j : Nat, i ≤ j ∧ j ≤ n ∧ s = .int .i64 j ∧ Hid (W (kl z) n i = W (kl z) n j)) (fun s => n - (intOf s).toNat)
  case atStart => exact ⟨i, Nat.le_refl _, hi, rfl, Lib.hid rfl⟩
  case round =>
    obtain ⟨j, hij, hj, rfl, HE⟩ := hrel
    by_cases hlt : j < n
    · obtain ⟨b, o, rfl, hb, hc⟩ := R.out (by omega)
      have x1 := hc j hlt
      have h0 := (HZ.out j hlt).1
      have h1 := (HZ.out j hlt).2
      clear hc
      have q1 : (0 : Int) ≤ (j : Int) := by omega
      have q2 : (j : Int) < (n : Int) := by omega
      by_cases hw : kl z j = 0
      · have ew : (((kl z j : Nat) : Int) == 0) = true := by rw [beq_iff_eq]; omega
        have EE := Lib.hid (HE.out.trans (W_step hlt hw))
        clear hw
        go_wp2_with (go_at_call 12; refine (cls z j _ h0 h1).mono ?_; rintro e w' ⟨rfl, rfl⟩)
        go_round
        case rel => exact ⟨j + 1, by omega, by omega, by go_num, EE⟩
        case measure => simp [intOf]; omega
      · have ew : (((kl z j : Nat) : Int) == 0) = false := by rw [beq_eq_false_iff_ne]; omega
        have EE := Lib.hid (HE.out.trans (W_here (k := kl z) (n := n) (j := j) (fun h => hw h.2)))
        clear hw HE
        by_cases h2 : kl z j = 2
        · have e2 : (((kl z j : Nat) : Int) != 2) = false := by rw [bne_eq_false_iff_eq]; omega
          have E2 := Lib.hid h2
          have g1 : decide (n ≤ j) = false := by simp; omega
          have g2 : ¬ n ≤ j := by omega
          clear h2
          go_wp2_with (go_at_call 12; refine (cls z j _ h0 h1).mono ?_; rintro e w' ⟨rfl, rfl⟩)
          go_loop [5] (fun s => ∃ m : Nat, j + 1 ≤ m ∧ m ≤ n ∧ s = .int .i64 m ∧ Hid (W (kl z) n (j + 1) = W (kl z) n m)) (fun s => n - (intOf s).toNat)
          case atStart => exact ⟨j + 1, Nat.le_refl _, by omega, by go_num, Lib.hid rfl⟩
          case round =>
            obtain ⟨m, hjm, hm, rfl, HM⟩ := hrel
            by_cases hmt : m < n
            · obtain ⟨b', o', e', hb', hc⟩ := R.out (by omega)
              obtain ⟨rfl, rfl⟩ : b = b' ∧ o = o' := by simpa using e'
              have x1 := hc m hmt
              have h0 := (HZ.out m hmt).1
              have h1 := (HZ.out m hmt).2
              clear hc e'
              have q1 : (0 : Int) ≤ (m : Int) := by omega
              have q2 : (m : Int) < (n : Int) := by omega
              by_cases hw : kl z m = 0
              · have ew : (((kl z m : Nat) : Int) == 0) = true := by rw [beq_iff_eq]; omega
                have EM := Lib.hid (HM.out.trans (W_step hmt hw))
                clear hw
                go_wp2_with (go_at_call 12; refine (cls z m _ h0 h1).mono ?_; rintro e w' ⟨rfl, rfl⟩)
                go_round
                case rel => exact ⟨m + 1, by omega, by omega, by go_num, EM⟩
                case measure => simp [intOf]; omega
              · have ew : (((kl z m : Nat) : Int) == 0) = false := by rw [beq_eq_false_iff_ne]; omega
                have EM := Lib.hid (HM.out.trans (W_here (k := kl z) (n := n) (j := m) (fun h => hw h.2)))
                have EF : Hid (CH (kl z) n i = (((kl z m : Nat) : Int) == 3)) := by
                  apply Lib.hid
                  unfold CH
                  rw [EE.out, E2.out, EM.out]
                  have : decide (kl z m = 3) = (((kl z m : Nat) : Int) == 3) := by rw [Bool.eq_iff_iff]; simp; omega
                  simp [hlt, hmt, this]
                clear hw HM
                go_wp2_with (go_at_call 12; refine (cls z m _ h0 h1).mono ?_; rintro e w' ⟨rfl, rfl⟩)
                all_goals
                  go_ret
                  exact ⟨by rw [EF.out]; (first | done | rfl), rfl⟩
            · have EF : Hid (CH (kl z) n i = false) := by
                apply Lib.hid
                unfold CH
                rw [EE.out, HM.out, W_here (fun h => hmt h.1)]
                simp [hmt]
              go_wp2_with fail
              go_ret
              exact ⟨by rw [EF.out]; (first | done | rfl), rfl⟩
        · have e2 : (((kl z j : Nat) : Int) != 2) = true := by rw [bne_iff_ne]; omega
          have EF : Hid (CH (kl z) n i = false) := by apply Lib.hid; unfold CH; rw [EE.out]; simp [h2]
          clear h2
          go_wp2_with (go_at_call 12; refine (cls z j _ h0 h1).mono ?_; rintro e w' ⟨rfl, rfl⟩)
          go_ret
          exact ⟨by rw [EF.out]; (first | done | rfl), rfl⟩
    · have EF : Hid (CH (kl z) n i = false) := by apply Lib.hid; unfold CH; rw [HE.out, W_here (fun h => hlt h.1)]; simp [hlt]
      go_wp2_with fail
      go_ret
      exact ⟨by rw [EF.out]; (first | done | rfl), rfl⟩
set_option maxRecDepth 100000 in
set_option maxHeartbeats 1000000 in
theorem modelW (A : Option Addr) (n c : Nat) (z : Nat → Int) (hz : ∀ i, i < n → 0 ≤ z i ∧ z i ≤ 255) (hn : n ≤ 1048576) (i : Nat) (w : World) (hi : i ≤ n) (r : BR w A n z) :
    Calls Try.prog 9 #[.slice A n c, .int .i64 i] w fun e w' => e = .returned (.tuple #[.int .u8 (SC (kl z) n 0 [] i).1, .int .i64 (SC (kl z) n 0 [] i).2]) ∧ w = w' := by
  have HZ := Lib.hid hz
  have R := Lib.hid r
  rw [agree]
  have HH := headW A n c z hz hn i w hi r
  clear hz r
  generalize CH (kl z) n i = acc at HH ⊢
  have HH' := Lib.hid HH
  clear HH
  go_enter Try.func9, Try.ntmps9
  go_wp2_with (go_at_call 17; refine HH'.out.mono ?_; rintro e w' ⟨rfl, rfl⟩)
  clear HH'
  go_loop [7] (fun s => ∃ j : Nat, i ≤ j ∧ j ≤ n ∧ s = .int .i64 j ∧ Hid (MD (kl z) n acc i = MD (kl z) n acc j)) (fun s => n - (intOf s).toNat)
  case atStart => exact ⟨i, Nat.le_refl _, hi, rfl, Lib.hid rfl⟩
  case round =>
    obtain ⟨j, hij, hj, rfl, HE⟩ := hrel
    by_cases hlt : j < n
    · have R' := R
      obtain ⟨b, o, rfl, hb, hc⟩ := R.out (by omega)
      have x1 := hc j hlt
      have h0 := (HZ.out j hlt).1
      have h1 := (HZ.out j hlt).2
      clear hc
      have q1 : (0 : Int) ≤ (j : Int) := by omega
      have q2 : (j : Int) < (n : Int) := by omega
      have HQ := Lib.hid (MD_eq (kl z) n acc j)
      by_cases hw : kl z j = 4
      · have ew : (((kl z j : Nat) : Int) == 4) = true := by rw [beq_iff_eq]; omega
        have EE : Hid (MD (kl z) n acc i = (1, (j : Int))) := by
          apply Lib.hid; rw [HE.out, HQ.out, if_pos hlt, if_pos hw]
        clear hw
        go_wp2_with (go_at_call 12; refine (cls z j _ h0 h1).mono ?_; rintro e w' ⟨rfl, rfl⟩)
        go_ret2
        exact ⟨by rw [EE.out]; (first | done | rfl), rfl⟩
      · have ew : (((kl z j : Nat) : Int) == 4) = false := by rw [beq_eq_false_iff_ne]; omega
        by_cases h10 : kl z j = 10 ∧ acc = false
        · obtain ⟨ha, rfl⟩ := h10
          have e10 : (((kl z j : Nat) : Int) == 10) = true := by rw [beq_iff_eq]; omega
          have EE : Hid (MD (kl z) n false i = (2, (j : Int))) := by
            apply Lib.hid; rw [HE.out, HQ.out, if_pos hlt, if_neg hw, if_pos ⟨ha, rfl⟩]
          clear hw ha
          go_wp2_with (go_at_call 12; refine (cls z j _ h0 h1).mono ?_; rintro e w' ⟨rfl, rfl⟩)
          go_ret2
          exact ⟨by rw [EE.out]; (first | done | rfl), rfl⟩
        · have key : (((kl z j : Nat) : Int) == 10) = false ∨ ((((kl z j : Nat) : Int) == 10) = true ∧ acc = true) := by
            by_cases ha : kl z j = 10
            · right; refine ⟨by rw [beq_iff_eq]; omega, ?_⟩
              cases acc
              · exact absurd ⟨ha, rfl⟩ h10
              · rfl
            · left; rw [beq_eq_false_iff_ne]; omega
          by_cases h11 : kl z j = 11
          · have e10 : (((kl z j : Nat) : Int) == 10) = false := by rw [beq_eq_false_iff_ne]; omega
            have e11 : (((kl z j : Nat) : Int) == 11) = true := by rw [beq_iff_eq]; omega
            have EE : Hid (MD (kl z) n acc i = (0, -1)) := by
              apply Lib.hid; rw [HE.out, HQ.out, if_pos hlt, if_neg hw, if_neg h10, if_pos h11]
            clear hw h10 h11 key
            go_wp2_with (go_at_call 12; refine (cls z j _ h0 h1).mono ?_; rintro e w' ⟨rfl, rfl⟩)
            go_ret2
            exact ⟨by rw [EE.out]; (first | done | rfl), rfl⟩
          · have e11 : (((kl z j : Nat) : Int) == 11) = false := by rw [beq_eq_false_iff_ne]; omega
            cases hcl : cl (kl z j) with
            | none =>
              have HC := Lib.hid hcl
              have e10 : (((kl z j : Nat) : Int) == 10) = false := by rw [beq_eq_false_iff_ne]; have := (cl_none hcl).2.2.2; omega
              have EE : Hid (MD (kl z) n acc i = MD (kl z) n acc (j + 1)) := by
                apply Lib.hid; rw [HE.out, HQ.out, if_pos hlt, if_neg hw, if_neg h10, if_neg h11, hcl]
              clear hw h11 hcl h10 key
              go_wp2_with (first
                | (go_at_call 12; refine (cls z j _ h0 h1).mono ?_; rintro e w' ⟨rfl, rfl⟩)
                | (go_at_call 18; refine (closer_none _ _ HC.out).mono ?_; rintro e w' ⟨rfl, rfl⟩))
              go_round
              case rel => exact ⟨j + 1, by omega, by omega, by go_num, EE⟩
              case measure => simp [intOf]; omega
            | some x =>
              have HC := Lib.hid hcl
              have EE : Hid (MD (kl z) n acc i = (match SK (kl z) n x (j + 1) with
                | none => (0, -1)
                | some e => MD (kl z) n acc e)) := by
                apply Lib.hid; rw [HE.out, HQ.out, if_pos hlt, if_neg hw, if_neg h10, if_neg h11, hcl]; rfl
              clear hw h11 hcl h10
              have HI := Lib.hid (skipW (some ⟨b, o, none⟩) n c z HZ.out hn (n + 1) (j + 1) x w (by omega) (by omega) R'.out)
              have ej : ((j + 1 : Nat) : Int) = (j : Int) + 1 := by omega
              rw [ej] at HI
              cases hs : SK (kl z) n x (j + 1) with
              | none =>
                have EN : Hid (MD (kl z) n acc i = (0, -1)) := by apply Lib.hid; rw [EE.out, hs]
                rw [hs] at HI
                clear hs EE
                rcases key with e10 | ⟨e10, rfl⟩
                all_goals
                  go_wp2_with (first
                    | (go_at_call 12; refine (cls z j _ h0 h1).mono ?_; rintro e w' ⟨rfl, rfl⟩)
                    | (go_at_call 18; refine (closer_some _ _ _ HC.out).mono ?_; rintro e w' ⟨rfl, rfl⟩)
                    | (go_at_call 19; refine HI.out.mono ?_; rintro e w' ⟨rfl, rfl⟩; unfold skv))
                  go_ret2
                  exact ⟨by rw [EN.out]; (first | done | rfl), rfl⟩
              | some y =>
                have hg := SK_gt (kl z) n hs
                have EN : Hid (MD (kl z) n acc i = MD (kl z) n acc y) := by apply Lib.hid; rw [EE.out, hs]
                rw [hs] at HI
                clear hs EE
                rcases key with e10 | ⟨e10, rfl⟩
                all_goals
                  go_wp2_with (first
                    | (go_at_call 12; refine (cls z j _ h0 h1).mono ?_; rintro e w' ⟨rfl, rfl⟩)
                    | (go_at_call 18; refine (closer_some _ _ _ HC.out).mono ?_; rintro e w' ⟨rfl, rfl⟩)
                    | (go_at_call 19; refine HI.out.mono ?_; rintro e w' ⟨rfl, rfl⟩; unfold skv))
                  go_round
                  case rel => exact ⟨y, by omega, by omega, rfl, EN⟩
                  case measure => simp [intOf]; omega
    · have EE : Hid (MD (kl z) n acc i = (0, -1)) := by
        apply Lib.hid; rw [HE.out, MD_eq, if_neg hlt]
      go_wp2_with fail
      go_ret2
      exact ⟨by rw [EE.out]; (first | done | rfl), rfl⟩
end Go.Proofs.Ytajkdjheoefbcaa.ZA
