/- The bounds of n011_210's law on concatenation. Printed by gen_ng.py. -/
import Derived.Test.YtdonfahjcejhpaaNf
namespace Go.Proofs.Ytdonfahjcejhpaa.MG
open Go.RowKit Go.Proofs.Ytdonfahjcejhpaa.TB
set_option linter.unusedVariables false
/-- What the bound on the total length says. -/
def By5 (na : Nat) (Ca : Nat → ZC) (nb : Nat) (Cb : Nat → ZC) (w : World) (e : Ending) (w' : World) : Prop :=
  ∃ b, e = .returned (.bool b) ∧ (b = true → (na ≤ 1048576 ∧ ∀ i, i < na → BC (Ca i)) ∧ (nb ≤ 1048576 ∧ ∀ i, i < nb → BC (Cb i))) ∧ w = w'
set_option maxRecDepth 100000 in
set_option maxHeartbeats 40000000 in
theorem bytes5 (Aa : Option Addr) (na ca : Nat) (Ca : Nat → ZC) (Ab : Option Addr) (nb cb' : Nat) (Cb : Nat → ZC) (w : World) (hna : na ≤ maxLen) (hnb : nb ≤ maxLen) (hA : Cv w (.slice Aa na ca) na Ca) (hB : Cv w (.slice Ab nb cb') nb Cb) :
    Calls Try.prog 5 #[.slice Aa na ca, .slice Ab nb cb'] w (By5 na Ca nb Cb w) := by
  unfold maxLen at hna hnb
  obtain ⟨A', c', hv, hA2⟩ := hA
  simp only [Value.slice.injEq] at hv
  obtain ⟨rfl, -, rfl⟩ := hv
  obtain ⟨A', c', hv, hB2⟩ := hB
  simp only [Value.slice.injEq] at hv
  obtain ⟨rfl, -, rfl⟩ := hv
  have Ha := Lib.hid hA2
  have Hb := Lib.hid hB2
  have NO := Lib.hid (show By5 na Ca nb Cb w (.returned (.bool false)) w from ⟨false, rfl, by simp, rfl⟩)
  have YES := Lib.hid (fun (h1 : na ≤ 1048576) (h2 : ∀ i, i < na → BC (Ca i)) (h3 : nb ≤ 1048576) (h4 : ∀ i, i < nb → BC (Cb i)) => show By5 na Ca nb Cb w (.returned (.bool true)) w from ⟨true, rfl, fun _ => ⟨⟨h1, h2⟩, ⟨h3, h4⟩⟩, rfl⟩)
  clear hA2 hB2
  go_enter Try.func5, Try.ntmps5
  by_cases h0a : na ≤ 1048576
  case neg => as_aux_lemma =>
    have h0' : (1048576 : Int) < (na : Int) := by omega
    go_wp2_with fail
    go_ret
    exact NO.out
  have h0a' : ¬ (1048576 : Int) < (na : Int) := by omega
  go_wp2_with fail
  go_loop [5, 6] (fun s i => ∃ (k : Nat) (t : Int), k ≤ na ∧ i = .int .i64 k ∧ s = .int .i64 t ∧ 0 ≤ t ∧ t ≤ 1048576 ∧ Hid (∀ i, i < k → BC (Ca i))) (fun _ i => na - (intOf i).toNat)
  case atStart => exact ⟨0, _, Nat.zero_le _, rfl, rfl, by omega, by omega, Lib.hid (fun i h => absurd h (by omega))⟩
  case round => as_aux_lemma =>
    obtain ⟨k, t, hk, rfl, rfl, t0, t1, HK⟩ := hrel
    by_cases hlt : k < na
    · obtain ⟨b, o, hAe, hlb, hI2⟩ := Ha.out (by omega)
      subst hAe
      obtain ⟨x, -, -, -, e3, hsv, hwi⟩ := hI2 k hlt
      obtain ⟨sa, sc, hx, hst⟩ := hsv
      subst hx
      have hmax := hwi.2.2.2.2.2.2
      obtain ⟨n2, hn2⟩ : ∃ n2, (Ca k).n = n2 := ⟨_, rfl⟩
      have HN2 := Lib.hid hn2
      rw [hn2] at e3 hst hmax
      have HU := Lib.hid hst
      clear hI2 hwi hst hn2
      have q1 : (0 : Int) ≤ (k : Int) := by omega
      have q2 : (k : Int) < (na : Int) := by omega
      by_cases h2 : n2 ≤ 1048576
      case neg => as_aux_lemma =>
        have h2' : (1048576 : Int) < (n2 : Int) := by omega
        go_wp2_with fail
        go_ret
        exact NO.out
      have h2' : ¬ (1048576 : Int) < (n2 : Int) := by omega
      by_cases g2 : t + (n2 : Int) ≤ 1048576
      case neg => as_aux_lemma =>
        have g2' : (1048576 : Int) < t + (n2 : Int) := by omega
        go_wp2_with fail
        go_ret
        exact NO.out
      have g2' : ¬ (1048576 : Int) < t + (n2 : Int) := by omega
      go_wp2_with fail
      go_loop [5, 7] (fun s i => ∃ (j : Nat) (t : Int), j ≤ n2 ∧ i = .int .i64 j ∧ s = .int .i64 t ∧ 0 ≤ t ∧ t ≤ 1048576 ∧ Hid (∀ i, i < j → BS ((Ca k).s i))) (fun _ i => n2 - (intOf i).toNat)
      case atStart => exact ⟨0, _, Nat.zero_le _, rfl, rfl, by omega, by omega, Lib.hid (fun i h => absurd h (by omega))⟩
      case round => as_aux_lemma =>
        clear g2 g2' t0 t1
        obtain ⟨j, t, hj, rfl, rfl, t0, t1, HJ⟩ := hrel
        by_cases hlt2 : j < n2
        · obtain ⟨b2, o2, hAe, hlb2, hI2⟩ := HU.out (by omega)
          subst hAe
          obtain ⟨x, -, -, e5, e6, hsv, hwi⟩ := hI2 j hlt2
          obtain ⟨sa3, sc3, hx, hst⟩ := hsv
          subst hx
          have hmax3 := hwi.2.2
          obtain ⟨n3, hn3⟩ : ∃ n3, ((Ca k).s j).n = n3 := ⟨_, rfl⟩
          have HN3 := Lib.hid hn3
          rw [hn3] at e6 hst hmax3
          obtain ⟨nm, hnm⟩ : ∃ nm, ((Ca k).s j).nm = nm := ⟨_, rfl⟩
          rw [hnm] at e5
          have HV := Lib.hid hst
          clear hI2 hwi hst hn3 hnm
          have q3 : (0 : Int) ≤ (j : Int) := by omega
          have q4 : (j : Int) < (n2 : Int) := by omega
          by_cases hs : nm.size ≤ 1048576
          case neg => as_aux_lemma =>
            have hs' : (1048576 : Int) < (nm.size : Int) := by omega
            go_wp2_with fail
            go_ret
            exact NO.out
          have hs' : ¬ (1048576 : Int) < (nm.size : Int) := by omega
          by_cases gs : t + (nm.size : Int) ≤ 1048576
          case neg => as_aux_lemma =>
            have gs' : (1048576 : Int) < t + (nm.size : Int) := by omega
            go_wp2_with fail
            go_ret
            exact NO.out
          have gs' : ¬ (1048576 : Int) < t + (nm.size : Int) := by omega
          by_cases h3 : n3 ≤ 1048576
          case neg => as_aux_lemma =>
            have h3' : (1048576 : Int) < (n3 : Int) := by omega
            go_wp2_with fail
            go_ret
            exact NO.out
          have h3' : ¬ (1048576 : Int) < (n3 : Int) := by omega
          by_cases g3 : t + (nm.size : Int) + (n3 : Int) ≤ 1048576
          case neg => as_aux_lemma =>
            have g3' : (1048576 : Int) < t + (nm.size : Int) + (n3 : Int) := by omega
            go_wp2_with fail
            go_ret
            exact NO.out
          have g3' : ¬ (1048576 : Int) < t + (nm.size : Int) + (n3 : Int) := by omega
          go_wp2_with fail
          go_loop [5, 8] (fun s i => ∃ (l : Nat) (t : Int), l ≤ n3 ∧ i = .int .i64 l ∧ s = .int .i64 t ∧ 0 ≤ t ∧ t ≤ 1048576 ∧ Hid (∀ i, i < l → BI (((Ca k).s j).s i))) (fun _ i => n3 - (intOf i).toNat)
          case atStart => exact ⟨0, _, Nat.zero_le _, rfl, rfl, by omega, by omega, Lib.hid (fun i h => absurd h (by omega))⟩
          case round => as_aux_lemma =>
            clear g3 g3' gs gs' t0 t1
            obtain ⟨l, t, hl, rfl, rfl, t0, t1, HL⟩ := hrel
            by_cases hlt3 : l < n3
            · obtain ⟨b3, o3, hAe, hlb3, hI2⟩ := HV.out (by omega)
              subst hAe
              obtain ⟨x, -, -, -, e9, hsv, hwi⟩ := hI2 l hlt3
              obtain ⟨sa4, sc4, hx, hst⟩ := hsv
              subst hx
              have hmax4 := hwi.2.2.2.2.2.2
              obtain ⟨n4, hn4⟩ : ∃ n4, (((Ca k).s j).s l).n = n4 := ⟨_, rfl⟩
              have HN4 := Lib.hid hn4
              rw [hn4] at e9 hst hmax4
              have HW := Lib.hid hst
              clear hI2 hwi hst hn4
              have q5 : (0 : Int) ≤ (l : Int) := by omega
              have q6 : (l : Int) < (n3 : Int) := by omega
              by_cases h4 : n4 ≤ 1048576
              case neg => as_aux_lemma =>
                have h4' : (1048576 : Int) < (n4 : Int) := by omega
                go_wp2_with fail
                go_ret
                exact NO.out
              have h4' : ¬ (1048576 : Int) < (n4 : Int) := by omega
              by_cases g4 : t + (n4 : Int) ≤ 1048576
              case neg => as_aux_lemma =>
                have g4' : (1048576 : Int) < t + (n4 : Int) := by omega
                go_wp2_with fail
                go_ret
                exact NO.out
              have g4' : ¬ (1048576 : Int) < t + (n4 : Int) := by omega
              go_wp2_with fail
              go_loop [5, 9] (fun s i => ∃ (m : Nat) (t : Int), m ≤ n4 ∧ i = .int .i64 m ∧ s = .int .i64 t ∧ 0 ≤ t ∧ t ≤ 1048576) (fun _ i => n4 - (intOf i).toNat)
              case atStart => exact ⟨0, _, Nat.zero_le _, rfl, rfl, by omega, by omega⟩
              case round => as_aux_lemma =>
                clear g4 g4' t0 t1
                obtain ⟨m, t, hm, rfl, rfl, t0, t1⟩ := hrel
                by_cases hlt4 : m < n4
                · obtain ⟨b4, o4, hAe, hlb4, hI2⟩ := HW.out (by omega)
                  subst hAe
                  have e10 := hI2 m hlt4
                  obtain ⟨sx, hsx⟩ : ∃ sx, (((Ca k).s j).s l).s m = sx := ⟨_, rfl⟩
                  rw [hsx] at e10
                  clear hI2 hsx
                  have q7 : (0 : Int) ≤ (m : Int) := by omega
                  have q8 : (m : Int) < (n4 : Int) := by omega
                  by_cases hx : sx.size ≤ 1048576
                  case neg => as_aux_lemma =>
                    have hx' : (1048576 : Int) < (sx.size : Int) := by omega
                    go_wp2_with fail
                    go_ret
                    exact NO.out
                  have hx' : ¬ (1048576 : Int) < (sx.size : Int) := by omega
                  by_cases gx : t + (sx.size : Int) ≤ 1048576
                  case neg => as_aux_lemma =>
                    have gx' : (1048576 : Int) < t + (sx.size : Int) := by omega
                    go_wp2_with fail
                    go_ret
                    exact NO.out
                  have gx' : ¬ (1048576 : Int) < t + (sx.size : Int) := by omega
                  go_wp2_with fail
                  go_round
                  case rel => exact ⟨m + 1, _, by omega, by go_num, rfl, by omega, by omega⟩
                  case measure => simp [intOf]; omega
                · as_aux_lemma =>
                  obtain rfl : m = n4 := by omega
                  have HL2 := Lib.hid (show ∀ i, i < l + 1 → BI (((Ca k).s j).s i) from fun i hi => by
                    by_cases e : i = l
                    · subst e; unfold BI; rw [HN4.out]; exact h4
                    · exact HL.out i (by omega))
                  go_wp2_with fail
                  go_round
                  case rel => exact ⟨l + 1, _, by omega, by go_num, rfl, t0, t1, HL2⟩
                  case measure => simp [intOf]; omega
            · as_aux_lemma =>
              obtain rfl : l = n3 := by omega
              have HJ2 := Lib.hid (show ∀ i, i < j + 1 → BS ((Ca k).s i) from fun i hi => by
                by_cases e : i = j
                · subst e; unfold BS; rw [HN3.out]; exact ⟨h3, HL.out⟩
                · exact HJ.out i (by omega))
              go_wp2_with fail
              go_round
              case rel => exact ⟨j + 1, _, by omega, by go_num, rfl, t0, t1, HJ2⟩
              case measure => simp [intOf]; omega
        · as_aux_lemma =>
          obtain rfl : j = n2 := by omega
          have HK2 := Lib.hid (show ∀ i, i < k + 1 → BC (Ca i) from fun i hi => by
            by_cases e : i = k
            · subst e; unfold BC; rw [HN2.out]; exact ⟨h2, HJ.out⟩
            · exact HK.out i (by omega))
          go_wp2_with fail
          go_round
          case rel => exact ⟨k + 1, _, by omega, by go_num, rfl, t0, t1, HK2⟩
          case measure => simp [intOf]; omega
    · as_aux_lemma =>
      obtain rfl : k = na := by omega
      have HKa := Lib.hid HK.out
      clear HK
      by_cases h0b : nb ≤ 1048576
      case neg => as_aux_lemma =>
        have h0' : (1048576 : Int) < (nb : Int) := by omega
        go_wp2_with fail
        go_ret
        exact NO.out
      have h0b' : ¬ (1048576 : Int) < (nb : Int) := by omega
      by_cases h9 : t + (nb : Int) ≤ 1048576
      case neg => as_aux_lemma =>
        have h0' : (1048576 : Int) < t + (nb : Int) := by omega
        go_wp2_with fail
        go_ret
        exact NO.out
      have h9' : ¬ (1048576 : Int) < t + (nb : Int) := by omega
      go_wp2_with fail
      go_loop [5, 10] (fun s i => ∃ (k : Nat) (t : Int), k ≤ nb ∧ i = .int .i64 k ∧ s = .int .i64 t ∧ 0 ≤ t ∧ t ≤ 1048576 ∧ Hid (∀ i, i < k → BC (Cb i))) (fun _ i => nb - (intOf i).toNat)
      case atStart => exact ⟨0, _, Nat.zero_le _, rfl, rfl, by omega, by omega, Lib.hid (fun i h => absurd h (by omega))⟩
      case round => as_aux_lemma =>
        obtain ⟨k, t, hk, rfl, rfl, t0, t1, HK⟩ := hrel
        by_cases hlt : k < nb
        · obtain ⟨b, o, hAe, hlb, hI2⟩ := Hb.out (by omega)
          subst hAe
          obtain ⟨x, -, -, -, e3, hsv, hwi⟩ := hI2 k hlt
          obtain ⟨sa, sc, hx, hst⟩ := hsv
          subst hx
          have hmax := hwi.2.2.2.2.2.2
          obtain ⟨n2, hn2⟩ : ∃ n2, (Cb k).n = n2 := ⟨_, rfl⟩
          have HN2 := Lib.hid hn2
          rw [hn2] at e3 hst hmax
          have HU := Lib.hid hst
          clear hI2 hwi hst hn2
          have q1 : (0 : Int) ≤ (k : Int) := by omega
          have q2 : (k : Int) < (nb : Int) := by omega
          by_cases h2 : n2 ≤ 1048576
          case neg => as_aux_lemma =>
            have h2' : (1048576 : Int) < (n2 : Int) := by omega
            go_wp2_with fail
            go_ret
            exact NO.out
          have h2' : ¬ (1048576 : Int) < (n2 : Int) := by omega
          by_cases g2 : t + (n2 : Int) ≤ 1048576
          case neg => as_aux_lemma =>
            have g2' : (1048576 : Int) < t + (n2 : Int) := by omega
            go_wp2_with fail
            go_ret
            exact NO.out
          have g2' : ¬ (1048576 : Int) < t + (n2 : Int) := by omega
          go_wp2_with fail
          go_loop [5, 11] (fun s i => ∃ (j : Nat) (t : Int), j ≤ n2 ∧ i = .int .i64 j ∧ s = .int .i64 t ∧ 0 ≤ t ∧ t ≤ 1048576 ∧ Hid (∀ i, i < j → BS ((Cb k).s i))) (fun _ i => n2 - (intOf i).toNat)
          case atStart => exact ⟨0, _, Nat.zero_le _, rfl, rfl, by omega, by omega, Lib.hid (fun i h => absurd h (by omega))⟩
          case round => as_aux_lemma =>
            clear g2 g2' t0 t1
            obtain ⟨j, t, hj, rfl, rfl, t0, t1, HJ⟩ := hrel
            by_cases hlt2 : j < n2
            · obtain ⟨b2, o2, hAe, hlb2, hI2⟩ := HU.out (by omega)
              subst hAe
              obtain ⟨x, -, -, e5, e6, hsv, hwi⟩ := hI2 j hlt2
              obtain ⟨sa3, sc3, hx, hst⟩ := hsv
              subst hx
              have hmax3 := hwi.2.2
              obtain ⟨n3, hn3⟩ : ∃ n3, ((Cb k).s j).n = n3 := ⟨_, rfl⟩
              have HN3 := Lib.hid hn3
              rw [hn3] at e6 hst hmax3
              obtain ⟨nm, hnm⟩ : ∃ nm, ((Cb k).s j).nm = nm := ⟨_, rfl⟩
              rw [hnm] at e5
              have HV := Lib.hid hst
              clear hI2 hwi hst hn3 hnm
              have q3 : (0 : Int) ≤ (j : Int) := by omega
              have q4 : (j : Int) < (n2 : Int) := by omega
              by_cases hs : nm.size ≤ 1048576
              case neg => as_aux_lemma =>
                have hs' : (1048576 : Int) < (nm.size : Int) := by omega
                go_wp2_with fail
                go_ret
                exact NO.out
              have hs' : ¬ (1048576 : Int) < (nm.size : Int) := by omega
              by_cases gs : t + (nm.size : Int) ≤ 1048576
              case neg => as_aux_lemma =>
                have gs' : (1048576 : Int) < t + (nm.size : Int) := by omega
                go_wp2_with fail
                go_ret
                exact NO.out
              have gs' : ¬ (1048576 : Int) < t + (nm.size : Int) := by omega
              by_cases h3 : n3 ≤ 1048576
              case neg => as_aux_lemma =>
                have h3' : (1048576 : Int) < (n3 : Int) := by omega
                go_wp2_with fail
                go_ret
                exact NO.out
              have h3' : ¬ (1048576 : Int) < (n3 : Int) := by omega
              by_cases g3 : t + (nm.size : Int) + (n3 : Int) ≤ 1048576
              case neg => as_aux_lemma =>
                have g3' : (1048576 : Int) < t + (nm.size : Int) + (n3 : Int) := by omega
                go_wp2_with fail
                go_ret
                exact NO.out
              have g3' : ¬ (1048576 : Int) < t + (nm.size : Int) + (n3 : Int) := by omega
              go_wp2_with fail
              go_loop [5, 12] (fun s i => ∃ (l : Nat) (t : Int), l ≤ n3 ∧ i = .int .i64 l ∧ s = .int .i64 t ∧ 0 ≤ t ∧ t ≤ 1048576 ∧ Hid (∀ i, i < l → BI (((Cb k).s j).s i))) (fun _ i => n3 - (intOf i).toNat)
              case atStart => exact ⟨0, _, Nat.zero_le _, rfl, rfl, by omega, by omega, Lib.hid (fun i h => absurd h (by omega))⟩
              case round => as_aux_lemma =>
                clear g3 g3' gs gs' t0 t1
                obtain ⟨l, t, hl, rfl, rfl, t0, t1, HL⟩ := hrel
                by_cases hlt3 : l < n3
                · obtain ⟨b3, o3, hAe, hlb3, hI2⟩ := HV.out (by omega)
                  subst hAe
                  obtain ⟨x, -, -, -, e9, hsv, hwi⟩ := hI2 l hlt3
                  obtain ⟨sa4, sc4, hx, hst⟩ := hsv
                  subst hx
                  have hmax4 := hwi.2.2.2.2.2.2
                  obtain ⟨n4, hn4⟩ : ∃ n4, (((Cb k).s j).s l).n = n4 := ⟨_, rfl⟩
                  have HN4 := Lib.hid hn4
                  rw [hn4] at e9 hst hmax4
                  have HW := Lib.hid hst
                  clear hI2 hwi hst hn4
                  have q5 : (0 : Int) ≤ (l : Int) := by omega
                  have q6 : (l : Int) < (n3 : Int) := by omega
                  by_cases h4 : n4 ≤ 1048576
                  case neg => as_aux_lemma =>
                    have h4' : (1048576 : Int) < (n4 : Int) := by omega
                    go_wp2_with fail
                    go_ret
                    exact NO.out
                  have h4' : ¬ (1048576 : Int) < (n4 : Int) := by omega
                  by_cases g4 : t + (n4 : Int) ≤ 1048576
                  case neg => as_aux_lemma =>
                    have g4' : (1048576 : Int) < t + (n4 : Int) := by omega
                    go_wp2_with fail
                    go_ret
                    exact NO.out
                  have g4' : ¬ (1048576 : Int) < t + (n4 : Int) := by omega
                  go_wp2_with fail
                  go_loop [5, 13] (fun s i => ∃ (m : Nat) (t : Int), m ≤ n4 ∧ i = .int .i64 m ∧ s = .int .i64 t ∧ 0 ≤ t ∧ t ≤ 1048576) (fun _ i => n4 - (intOf i).toNat)
                  case atStart => exact ⟨0, _, Nat.zero_le _, rfl, rfl, by omega, by omega⟩
                  case round => as_aux_lemma =>
                    clear g4 g4' t0 t1
                    obtain ⟨m, t, hm, rfl, rfl, t0, t1⟩ := hrel
                    by_cases hlt4 : m < n4
                    · obtain ⟨b4, o4, hAe, hlb4, hI2⟩ := HW.out (by omega)
                      subst hAe
                      have e10 := hI2 m hlt4
                      obtain ⟨sx, hsx⟩ : ∃ sx, (((Cb k).s j).s l).s m = sx := ⟨_, rfl⟩
                      rw [hsx] at e10
                      clear hI2 hsx
                      have q7 : (0 : Int) ≤ (m : Int) := by omega
                      have q8 : (m : Int) < (n4 : Int) := by omega
                      by_cases hx : sx.size ≤ 1048576
                      case neg => as_aux_lemma =>
                        have hx' : (1048576 : Int) < (sx.size : Int) := by omega
                        go_wp2_with fail
                        go_ret
                        exact NO.out
                      have hx' : ¬ (1048576 : Int) < (sx.size : Int) := by omega
                      by_cases gx : t + (sx.size : Int) ≤ 1048576
                      case neg => as_aux_lemma =>
                        have gx' : (1048576 : Int) < t + (sx.size : Int) := by omega
                        go_wp2_with fail
                        go_ret
                        exact NO.out
                      have gx' : ¬ (1048576 : Int) < t + (sx.size : Int) := by omega
                      go_wp2_with fail
                      go_round
                      case rel => exact ⟨m + 1, _, by omega, by go_num, rfl, by omega, by omega⟩
                      case measure => simp [intOf]; omega
                    · as_aux_lemma =>
                      obtain rfl : m = n4 := by omega
                      have HL2 := Lib.hid (show ∀ i, i < l + 1 → BI (((Cb k).s j).s i) from fun i hi => by
                        by_cases e : i = l
                        · subst e; unfold BI; rw [HN4.out]; exact h4
                        · exact HL.out i (by omega))
                      go_wp2_with fail
                      go_round
                      case rel => exact ⟨l + 1, _, by omega, by go_num, rfl, t0, t1, HL2⟩
                      case measure => simp [intOf]; omega
                · as_aux_lemma =>
                  obtain rfl : l = n3 := by omega
                  have HJ2 := Lib.hid (show ∀ i, i < j + 1 → BS ((Cb k).s i) from fun i hi => by
                    by_cases e : i = j
                    · subst e; unfold BS; rw [HN3.out]; exact ⟨h3, HL.out⟩
                    · exact HJ.out i (by omega))
                  go_wp2_with fail
                  go_round
                  case rel => exact ⟨j + 1, _, by omega, by go_num, rfl, t0, t1, HJ2⟩
                  case measure => simp [intOf]; omega
            · as_aux_lemma =>
              obtain rfl : j = n2 := by omega
              have HK2 := Lib.hid (show ∀ i, i < k + 1 → BC (Cb i) from fun i hi => by
                by_cases e : i = k
                · subst e; unfold BC; rw [HN2.out]; exact ⟨h2, HJ.out⟩
                · exact HK.out i (by omega))
              go_wp2_with fail
              go_round
              case rel => exact ⟨k + 1, _, by omega, by go_num, rfl, t0, t1, HK2⟩
              case measure => simp [intOf]; omega
        · as_aux_lemma =>
          obtain rfl : k = nb := by omega
          go_wp2_with fail
          go_ret
          exact YES.out h0a HKa.out h0b HK.out
end Go.Proofs.Ytdonfahjcejhpaa.MG
