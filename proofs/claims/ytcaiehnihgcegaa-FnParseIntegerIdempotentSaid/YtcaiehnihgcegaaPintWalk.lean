/- parseInteger answers what the plain function 'pint' computes. -/
import Derived.Test.YtcaiehnihgcegaaRows
import Derived.Test.YtcaiehnihgcegaaPlain
import Derived.WalkKit
import Derived.ProofKit
import Derived.OpenShut
import Derived.ShutString
import Derived.WalkSpells
import Derived.WalkLawsBesides
import Derived.LoopTactic
import Derived.Outline
import Derived.Lib.Hide
namespace Go.Proofs.Ytcaiehnihgcegaa.PInt
open Go.ChangeShapes Go.WideShapes Go.ChangeAt Go.RowKit

def Res (l : List UInt8) (w : World) (e : Ending) (w' : World) : Prop :=
  e = .returned (.tuple #[.string ⟨(pint l).1.toArray⟩, .bool (pint l).2]) ∧ w = w'

theorem res_of {l o : List UInt8} {b : Bool} {w : World} {e : Ending} (h : pint l = (o, b))
    (he : e = .returned (.tuple #[.string ⟨o.toArray⟩, .bool b])) : Res l w e w := by
  unfold Res; rw [h]; exact ⟨he, rfl⟩

set_option maxHeartbeats 400000 in
theorem pint_calls (s : ByteArray) (w : World) (hs : s.size ≤ maxLen) :
    Calls Try.prog 29 #[.string s] w (Res s.data.toList w) := by
  unfold maxLen at hs
  by_cases h0 : s.size = 0
  · obtain rfl : s = ByteArray.empty := by
      apply ByteArray.ext; apply Array.eq_empty_of_size_eq_zero; exact h0
    clear h0
    go_enter Try.func29, Try.ntmps29
    go_wp2
    go_ret2
    exact ⟨rfl, rfl⟩
  · have hz : ((s.size : Int) == 0) = false := by simpa using h0
    clear h0
    go_enter Try.func29, Try.ntmps29
    go_wp2
    go_loop [5] (fun i => ∃ k : Nat, k ≤ s.size ∧ i = .int .i64 k ∧ Hid (∀ j, j < k → s.data.toList[j]? = some 48)) (fun i => s.size - (intOf i).toNat)
    case atStart => exact ⟨0, Nat.zero_le _, rfl, Lib.hid (fun j hj => by omega)⟩
    case round =>
      obtain ⟨k, hk, rfl, HK⟩ := hrel
      by_cases hlt : k < s.size
      · have hget : s.data.toList[k]? = some s[k] := by
          rw [List.getElem?_eq_getElem (by rw [Array.length_toList]; exact hlt)]; rfl
        by_cases hc : s[k] = 48
        · have hb : ((s[k].toNat : Int) == 48) = true := by rw [hc]; rfl
          have HK2 := Lib.hid (show ∀ j, j < k + 1 → s.data.toList[j]? = some 48 by
            intro j hj
            by_cases e : j = k
            · rw [e, hget, hc]
            · exact HK.out j (by omega))
          clear hc HK hget
          go_wp2
          go_round
          case rel => exact ⟨k + 1, by omega, by go_num, HK2⟩
          case measure => simp [intOf]; omega
        · have hb : ((s[k].toNat : Int) == 48) = false := by
            simp only [beq_eq_false_iff_ne]; intro e; apply hc; exact UInt8.toNat_inj.1 (by simpa using (by omega : s[k].toNat = 48))
          have HN := Lib.hid (show s.data.toList[k]? ≠ some 48 by rw [hget]; simpa using hc)
          clear hc hget
          go_wp2
          go_loop [6] (fun i => ∃ j : Nat, k ≤ j ∧ j ≤ s.size ∧ i = .int .i64 j ∧ Hid (∀ i, k ≤ i → i < j → isDig (s.data.toList.getD i 0) = true)) (fun i => s.size - (intOf i).toNat)
          case atStart => exact ⟨k, Nat.le_refl _, by omega, rfl, Lib.hid (fun i h1 h2 => by omega)⟩
          case round =>
            obtain ⟨j, hkj, hjs, rfl, HJ⟩ := hrel
            by_cases hjlt : j < s.size
            · have hgj : s.data.toList.getD j 0 = s[j] := by
                rw [List.getD_eq_getElem?_getD, List.getElem?_eq_getElem (by rw [Array.length_toList]; exact hjlt)]; rfl
              have HG := Lib.hid hgj; clear hgj
              by_cases h1 : (s[j].toNat : Int) < 48
              · have HP := Lib.hid (pint_bad s.data.toList k j (by rw [Array.length_toList]; exact hlt) HK.out HN.out hkj (by rw [Array.length_toList]; exact hjlt)
                  (by rw [HG.out]; simp [isDig, UInt8.le_iff_toNat_le]; omega))
                go_wp2
                go_ret2
                exact res_of HP.out rfl
              · by_cases h2 : 57 < (s[j].toNat : Int)
                · have HP := Lib.hid (pint_bad s.data.toList k j (by rw [Array.length_toList]; exact hlt) HK.out HN.out hkj (by rw [Array.length_toList]; exact hjlt)
                    (by rw [HG.out]; simp [isDig, UInt8.le_iff_toNat_le]; omega))
                  go_wp2
                  go_ret2
                  exact res_of HP.out rfl
                · have HJ2 := Lib.hid (show ∀ i, k ≤ i → i < j + 1 → isDig (s.data.toList.getD i 0) = true by
                    intro i a b
                    by_cases e : i = j
                    · rw [e, HG.out]; simp [isDig, UInt8.le_iff_toNat_le]; omega
                    · exact HJ.out i a (by omega))
                  clear HJ HG
                  go_wp2
                  go_round
                  case rel => exact ⟨j + 1, by omega, by omega, by go_num, HJ2⟩
                  case measure => simp [intOf]; omega
            · obtain rfl : j = s.size := by omega
              have HP := Lib.hid (pint_ok s.data.toList k (by rw [Array.length_toList]; exact hlt) HK.out HN.out
                (fun j a b => HJ.out j a (by rw [Array.length_toList] at b; exact b)))
              have HE := Lib.hid (extract_end s k)
              go_wp2
              go_ret2
              rw [HE.out]
              exact res_of HP.out rfl
      · obtain rfl : k = s.size := by omega
        have HP := Lib.hid (pint_zeros s.data.toList (by rw [Array.length_toList]; simp at hz; exact Nat.pos_of_ne_zero (fun e => hz (ByteArray.ext (Array.eq_empty_of_size_eq_zero e)))) (fun j hj => HK.out j (by rw [Array.length_toList] at hj; exact hj)))
        go_wp2
        go_ret2
        exact res_of HP.out rfl

theorem zz_calls (s : ByteArray) (w : World) (hs : s.size ≤ maxLen) :
    Calls Try.prog 13 #[.string s] w (Res s.data.toList w) := by
  go_enter Try.func13, Try.ntmps13
  go_wp2_with fail
  refine (pint_calls s w hs).mono ?_
  rintro e w' ⟨rfl, rfl⟩
  go_wp2_with fail
  go_ret2
  exact ⟨rfl, rfl⟩

set_option maxHeartbeats 400000 in
theorem law_calls (a0 : ByteArray) (w0 : a0.size ≤ maxLen) (w : World) :
    Calls Try.prog 5 #[.string a0] w fun e w' => e = .returned (.bool true) ∧ Grown w w' := by
  unfold maxLen at w0
  by_cases hb : 1048576 < (a0.size : Int)
  · go_enter Try.func5, Try.ntmps5
    go_wp2
    go_ret
    exact ⟨rfl, Grown.refl _⟩
  · have hl := pint_len a0.data.toList
    rw [Array.length_toList] at hl
    have hl' : (pint a0.data.toList).1.length ≤ a0.size + 1 := hl
    clear hl
    rcases hp : pint a0.data.toList with ⟨o, b⟩
    cases b
    · go_enter Try.func5, Try.ntmps5
      have HP := Lib.hid hp; clear hp
      go_wp2_with (first | (go_at_call 12; go_in))
      refine (zz_calls a0 w (by unfold maxLen; omega)).mono ?_
      rintro e w' ⟨rfl, rfl⟩
      rw [HP.out]
      go_wp2_with fail
      go_ret
      exact ⟨rfl, Grown.refl _⟩
    · have hi := pint_idem a0.data.toList (by rw [hp])
      rw [hp] at hi hl'
      simp only at hi hl'
      have HP := Lib.hid hp; clear hp
      have HI := Lib.hid hi; clear hi
      go_enter Try.func5, Try.ntmps5
      go_wp2_with (first | (go_at_call 12; go_in))
      refine (zz_calls a0 w (by unfold maxLen; omega)).mono ?_
      rintro e w' ⟨rfl, rfl⟩
      rw [HP.out]
      go_wp2_with fail
      refine (zz_calls ⟨o.toArray⟩ w (by unfold maxLen; show o.toArray.size ≤ _; simp; omega)).mono ?_
      rintro e w' ⟨rfl, rfl⟩
      rw [show (⟨o.toArray⟩ : ByteArray).data.toList = o from rfl, HI.out]
      go_wp2_with fail
      go_ret
      exact ⟨rfl, Grown.refl _⟩
end Go.Proofs.Ytcaiehnihgcegaa.PInt
