/- mangleFontWeight and foldEqualASCII walked. -/
import Derived.Test.YtneenpmkacjlmaaDoorShelf
import Derived.Test.YtneenpmkacjlmaaDoorLow
import Derived.WalkKit
import Derived.WalkLawsBesides
import Derived.WalkSpells
import Derived.Lib.Hide
import Derived.Outline
import Derived.Deep.QuietTactic
import Derived.BigQuiet
import Derived.LoopTactic
import Derived.RegionTactic
import Derived.BigRegion
import Derived.Deep.Cut
import Derived.Deep.DeepCutAuto
namespace Go.Proofs.YtneenpmkacjlmaaDoor.WA
open Go.RowKit Go.Lib Go.Proofs.YtneenpmkacjlmaaDoor.LO
set_option linter.unusedVariables false
/-- The library's three tables. -/
def Tabs (w : World) : Prop := CaseVar 0 caseA w ∧ Utf8Tabs 2 3 w
theorem Tabs.below {w w' : World} (h : Tabs w) (hb : Below w.heap.size w w') : Tabs w' := ⟨CaseVar_below h.1 hb, Utf8Tabs_below h.2 hb⟩
theorem below_drewN {B : Nat} {a w : World} (h : Below B a w) (n : Nat) : Below B a (w.drewN n) := ⟨h.os, h.tape, h.output, h.size, h.block⟩
def low (s : ByteArray) : ByteArray := ⟨(toLowerD s.data.toList).toArray⟩
theorem lower (s : ByteArray) (w : World) (hs : s.size ≤ 1048576) (hT : Tabs w) : Calls Tryd.prog 10 #[.string s] w fun e w' => e = .returned (.string (low s)) ∧ Below w.heap.size w w' :=
  Tryd.strings_ToLower_any s w (by omega) hT.1 hT.2
def normalL : List UInt8 := [110, 111, 114, 109, 97, 108]
def boldL : List UInt8 := [98, 111, 108, 100]
theorem low_eq (s : ByteArray) (v : List UInt8) (hv : ∀ c ∈ v, c.toNat < 128 ∧ c ≠ 105 ∧ c ≠ 107) : ((low s).toList == v) = decide (s.data.toList.map lowerB = v) := by
  have e : (low s).toList = toLowerD s.data.toList := by unfold low; simp
  rw [e, Bool.eq_iff_iff]
  simp only [beq_iff_eq, decide_eq_true_eq]
  exact lowD_word v hv s.data.toList
theorem lowerB_nat (b : UInt8) : ((lowerB b).toNat : Int) = if 65 ≤ (b.toNat : Int) ∧ (b.toNat : Int) ≤ 90 then (b.toNat : Int) + 32 else b.toNat := by
  unfold lowerB isUpperB
  by_cases h : 65 ≤ b ∧ b ≤ 90
  · have h1 : 65 ≤ b.toNat := UInt8.le_iff_toNat_le.1 h.1
    have h2 : b.toNat ≤ 90 := UInt8.le_iff_toNat_le.1 h.2
    rw [if_pos (by simp [h]), if_pos (by omega), UInt8.toNat_add]
    have : (32 : UInt8).toNat = 32 := rfl
    omega
  · have h' : ¬ (65 ≤ b.toNat ∧ b.toNat ≤ 90) := fun hh => h ⟨UInt8.le_iff_toNat_le.2 hh.1, UInt8.le_iff_toNat_le.2 hh.2⟩
    rw [if_neg (by simpa using h), if_neg (by omega)]
theorem map_eq (s v : ByteArray) (h : s.size = v.size) (ha : ∀ j (h1 : j < s.size) (h2 : j < v.size), lowerB s[j] = v[j]) : s.data.toList.map lowerB = v.data.toList := by
  apply List.ext_getElem
  · rw [List.length_map, ← Lib.size_eq, ← Lib.size_eq]; exact h
  · intro j h1 h2
    simp only [List.getElem_map]
    exact ha j (by rw [List.length_map, ← Lib.size_eq] at h1; exact h1) (by rw [← Lib.size_eq] at h2; exact h2)
set_option maxRecDepth 100000 in
set_option maxHeartbeats 1000000 in
theorem foldEq (s v : ByteArray) (w : World) (hs : s.size ≤ 1048576) (hv : v.size ≤ 1048576) :
    Calls Tryd.prog 8 #[.string s, .string v] w fun e w' => e = .returned (.bool (decide (s.data.toList.map lowerB = v.data.toList))) ∧ w = w' := by
  by_cases hl : s.size = v.size
  · have q0 : ((s.size : Int) != (v.size : Int)) = false := by rw [bne_eq_false_iff_eq]; omega
    have HL := Lib.hid hl
    have hle : s.size ≤ v.size := by omega
    clear hl
    go_enter Tryd.func8, Tryd.ntmps8
    go_wp2
    go_loop [5] (fun i => ∃ k : Nat, k ≤ s.size ∧ i = .int .i64 k ∧ Hid (∀ j (h1 : j < s.size) (h2 : j < v.size), j < k → lowerB s[j] = v[j])) (fun i => s.size - (intOf i).toNat)
    case atStart => exact ⟨0, Nat.zero_le _, rfl, Lib.hid (fun j _ _ h => absurd h (by omega))⟩
    case round =>
      obtain ⟨k, hk, rfl, HA⟩ := hrel
      by_cases hlt : k < s.size
      · have hlt2 : k < v.size := by omega
        have hb := lowerB_nat s[k]
        have hx := s[k].toNat_lt
        have q1 : (0 : Int) ≤ (k : Int) := by omega
        have q2 : (k : Int) < (s.size : Int) := by omega
        have q3 : (k : Int) < (v.size : Int) := by omega
        by_cases he : lowerB s[k] = v[k]
        · have HA2 : Hid (∀ j (h1 : j < s.size) (h2 : j < v.size), j < k + 1 → lowerB s[j] = v[j]) := by
            apply Lib.hid
            intro j h1 h2 h3
            by_cases e : j = k
            · subst e; exact he
            · exact HA.out j h1 h2 (by omega)
          rw [he] at hb
          by_cases hu : 65 ≤ (s[k].toNat : Int) ∧ (s[k].toNat : Int) ≤ 90
          · rw [if_pos hu] at hb
            obtain ⟨u1, u2⟩ := hu
            have b1 : (((s[k].toNat : Int) + 32) != (v[k].toNat : Int)) = false := by rw [bne_eq_false_iff_eq]; omega
            have d1 : decide ((65 : Int) ≤ (s[k].toNat : Int)) = true := by rw [decide_eq_true_eq]; omega
            have d2 : decide ((s[k].toNat : Int) ≤ 90) = true := by rw [decide_eq_true_eq]; omega
            clear hb he
            go_wp2
            go_round
            case rel => exact ⟨k + 1, by omega, by go_num, HA2⟩
            case measure => simp [intOf]; omega
          · rw [if_neg hu] at hb
            have b1 : ((s[k].toNat : Int) != (v[k].toNat : Int)) = false := by rw [bne_eq_false_iff_eq]; omega
            clear hb he
            by_cases u1 : 65 ≤ (s[k].toNat : Int)
            · have d1 : decide ((65 : Int) ≤ (s[k].toNat : Int)) = true := by rw [decide_eq_true_eq]; omega
              have d2 : decide ((s[k].toNat : Int) ≤ 90) = false := by rw [decide_eq_false_iff_not]; omega
              clear hu
              go_wp2
              go_round
              case rel => exact ⟨k + 1, by omega, by go_num, HA2⟩
              case measure => simp [intOf]; omega
            · have d1 : decide ((65 : Int) ≤ (s[k].toNat : Int)) = false := by rw [decide_eq_false_iff_not]; omega
              clear hu
              go_wp2
              go_round
              case rel => exact ⟨k + 1, by omega, by go_num, HA2⟩
              case measure => simp [intOf]; omega
        · have ER : Hid (decide (s.data.toList.map lowerB = v.data.toList) = false) := by
            apply Lib.hid
            rw [decide_eq_false_iff_not]
            intro h
            apply he
            have h1 := congrArg (fun l => l[k]?) h
            simp only [List.getElem?_map] at h1
            rw [List.getElem?_eq_getElem (show k < s.data.toList.length by rw [← Lib.size_eq]; exact hlt), List.getElem?_eq_getElem (show k < v.data.toList.length by rw [← Lib.size_eq]; exact hlt2)] at h1
            rw [Option.map_some, Option.some.injEq] at h1
            exact h1
          have hne : (lowerB s[k]).toNat ≠ v[k].toNat := fun h => he (UInt8.toNat_inj.1 h)
          by_cases hu : 65 ≤ (s[k].toNat : Int) ∧ (s[k].toNat : Int) ≤ 90
          · rw [if_pos hu] at hb
            obtain ⟨u1, u2⟩ := hu
            have b1 : (((s[k].toNat : Int) + 32) != (v[k].toNat : Int)) = true := by rw [bne_iff_ne]; omega
            have d1 : decide ((65 : Int) ≤ (s[k].toNat : Int)) = true := by rw [decide_eq_true_eq]; omega
            have d2 : decide ((s[k].toNat : Int) ≤ 90) = true := by rw [decide_eq_true_eq]; omega
            clear hb he hne
            go_wp2
            go_ret
            exact ⟨by rw [ER.out]; rfl, rfl⟩
          · rw [if_neg hu] at hb
            have b1 : ((s[k].toNat : Int) != (v[k].toNat : Int)) = true := by rw [bne_iff_ne]; omega
            clear hb he hne
            by_cases u1 : 65 ≤ (s[k].toNat : Int)
            · have d1 : decide ((65 : Int) ≤ (s[k].toNat : Int)) = true := by rw [decide_eq_true_eq]; omega
              have d2 : decide ((s[k].toNat : Int) ≤ 90) = false := by rw [decide_eq_false_iff_not]; omega
              clear hu
              go_wp2
              go_ret
              exact ⟨by rw [ER.out]; rfl, rfl⟩
            · have d1 : decide ((65 : Int) ≤ (s[k].toNat : Int)) = false := by rw [decide_eq_false_iff_not]; omega
              clear hu
              go_wp2
              go_ret
              exact ⟨by rw [ER.out]; rfl, rfl⟩
      · have ER : Hid (decide (s.data.toList.map lowerB = v.data.toList) = true) := by
          apply Lib.hid
          rw [decide_eq_true_eq]
          exact map_eq s v HL.out (fun j h1 h2 => HA.out j h1 h2 (by omega))
        go_wp2
        go_ret
        exact ⟨by rw [ER.out]; rfl, rfl⟩
  · have q0 : ((s.size : Int) != (v.size : Int)) = true := by rw [bne_iff_ne]; omega
    have e : decide (s.data.toList.map lowerB = v.data.toList) = false := by
      rw [decide_eq_false_iff_not]
      intro h
      have h2 := congrArg List.length h
      rw [List.length_map, ← Lib.size_eq, ← Lib.size_eq] at h2
      exact hl h2
    rw [e]
    clear e hl
    go_enter Tryd.func8, Tryd.ntmps8
    go_wp2
    go_ret
    exact ⟨rfl, rfl⟩
end Go.Proofs.YtneenpmkacjlmaaDoor.WA
