/- isFontSize, the keywords and the fold of n011_200, walked. -/
import Derived.Test.YthjfpkokcecinaaDoorShelf
import Derived.Test.YthjfpkokcecinaaDoorLow
import Derived.Test.YthjfpkokcecinaaDoorTab
import Derived.Test.YthjfpkokcecinaaDoorOwn
import Derived.WalkKit
import Derived.WalkLawsBesides
import Derived.WalkSpells
import Derived.Lib.Hide
import Derived.Outline
import Derived.Handy
import Derived.Laws.Tables
import Derived.Laws.IdiomStrings
import Derived.Deep.QuietTactic
import Derived.BigQuiet
import Derived.LoopTactic
import Derived.RegionTactic
import Derived.BigRegion
import Derived.Deep.Cut
import Derived.Deep.DeepCutAuto
namespace Go.Proofs.YthjfpkokcecinaaDoor.WA
open Go.RowKit Go.Lib Go.Proofs.YthjfpkokcecinaaDoor.LO Go.Proofs.YthjfpkokcecinaaDoor.TB Go.Proofs.YthjfpkokcecinaaDoor.OW
set_option linter.unusedVariables false
def words : List (List UInt8) := [[120, 120, 45, 115, 109, 97, 108, 108], [120, 45, 115, 109, 97, 108, 108], [115, 109, 97, 108, 108], [109, 101, 100, 105, 117, 109], [108, 97, 114, 103, 101], [120, 45, 108, 97, 114, 103, 101], [120, 120, 45, 108, 97, 114, 103, 101], [120, 120, 120, 45, 108, 97, 114, 103, 101], [108, 97, 114, 103, 101, 114], [115, 109, 97, 108, 108, 101, 114]]
theorem words_ascii : ∀ w ∈ words, ∀ c ∈ w, c.toNat < 128 := by decide
/-- The map of the keywords, as the look-ups see it. -/
def KW (w : World) : Prop := ∃ bm, w.cell? ⟨0, 0, none⟩ = some (.map (some bm)) ∧ 0 < w.heap.size ∧ bm < w.heap.size ∧
  ∀ w' : World, w'.heap[bm]? = w.heap[bm]? → ∀ s : ByteArray, s.size ≤ maxLen → (Instr.lookup 38 (.map (some bm)) (.string s) true).run Tryd.prog w' = .ok (.tuple #[.bool (decide (s.data.toList ∈ words)), .bool (decide (s.data.toList ∈ words))]) w'
theorem KW.below {w w' : World} (h : KW w) (hb : Below w.heap.size w w') : KW w' := by
  obtain ⟨bm, h1, h0, h2, h3⟩ := h
  exact ⟨bm, by rw [hb.cell h0]; exact h1, Nat.lt_of_lt_of_le h0 hb.size, Nat.lt_of_lt_of_le h2 hb.size, fun w'' e s hs => h3 w'' (e.trans (hb.block bm h2)) s hs⟩
/-- The library's three tables, and the keywords. -/
def Tabs (w : World) : Prop := CaseVar 1 caseA w ∧ Utf8Tabs 3 4 w ∧ KW w
theorem Tabs.below {w w' : World} (h : Tabs w) (hb : Below w.heap.size w w') : Tabs w' := ⟨CaseVar_below h.1 hb, Utf8Tabs_below h.2.1 hb, h.2.2.below hb⟩
theorem below_drewN {B : Nat} {a w : World} (h : Below B a w) (n : Nat) : Below B a (w.drewN n) := ⟨h.os, h.tape, h.output, h.size, h.block⟩
def low (s : ByteArray) : ByteArray := ⟨(toLowerD s.data.toList).toArray⟩
theorem lower (s : ByteArray) (w : World) (hs : s.size ≤ 1048576) (hT : Tabs w) : Calls Tryd.prog 9 #[.string s] w fun e w' => e = .returned (.string (low s)) ∧ Below w.heap.size w w' :=
  Tryd.strings_ToLower_any s w (by omega) hT.1 hT.2.1
/-- A word in a switch. -/
def SomeB (b : Bool) (w : World) (e : Ending) (w' : World) : Prop := e = .returned (.bool b) ∧ w = w'
set_option maxRecDepth 100000 in
set_option maxHeartbeats 1000000 in
theorem isKw (s : ByteArray) (w : World) : Calls Tryd.prog 7 #[.string s] w (SomeB (decide (s.data.toList ∈ words)) w) := by
  by_cases h : s.data.toList ∈ words
  · have e : decide (s.data.toList ∈ words) = true := by rw [decide_eq_true_eq]; exact h
    rw [e]
    clear e
    unfold words at h
    simp only [List.mem_cons, List.not_mem_nil, or_false] at h
    rcases h with h | h | h | h | h | h | h | h | h | h
    · have ht : s.toList = [120, 120, 45, 115, 109, 97, 108, 108] := (Lib.toList_data s).trans h
      have f0 : (s.toList == [120, 120, 45, 115, 109, 97, 108, 108]) = true := by rw [ht]; rfl
      clear h ht
      go_enter Tryd.func7, Tryd.ntmps7
      go_wp2
      go_ret
      exact ⟨rfl, rfl⟩
    · have ht : s.toList = [120, 45, 115, 109, 97, 108, 108] := (Lib.toList_data s).trans h
      have f0 : (s.toList == [120, 120, 45, 115, 109, 97, 108, 108]) = false := by rw [ht]; rfl
      have f1 : (s.toList == [120, 45, 115, 109, 97, 108, 108]) = true := by rw [ht]; rfl
      clear h ht
      go_enter Tryd.func7, Tryd.ntmps7
      go_wp2
      go_ret
      exact ⟨rfl, rfl⟩
    · have ht : s.toList = [115, 109, 97, 108, 108] := (Lib.toList_data s).trans h
      have f0 : (s.toList == [120, 120, 45, 115, 109, 97, 108, 108]) = false := by rw [ht]; rfl
      have f1 : (s.toList == [120, 45, 115, 109, 97, 108, 108]) = false := by rw [ht]; rfl
      have f2 : (s.toList == [115, 109, 97, 108, 108]) = true := by rw [ht]; rfl
      clear h ht
      go_enter Tryd.func7, Tryd.ntmps7
      go_wp2
      go_ret
      exact ⟨rfl, rfl⟩
    · have ht : s.toList = [109, 101, 100, 105, 117, 109] := (Lib.toList_data s).trans h
      have f0 : (s.toList == [120, 120, 45, 115, 109, 97, 108, 108]) = false := by rw [ht]; rfl
      have f1 : (s.toList == [120, 45, 115, 109, 97, 108, 108]) = false := by rw [ht]; rfl
      have f2 : (s.toList == [115, 109, 97, 108, 108]) = false := by rw [ht]; rfl
      have f3 : (s.toList == [109, 101, 100, 105, 117, 109]) = true := by rw [ht]; rfl
      clear h ht
      go_enter Tryd.func7, Tryd.ntmps7
      go_wp2
      go_ret
      exact ⟨rfl, rfl⟩
    · have ht : s.toList = [108, 97, 114, 103, 101] := (Lib.toList_data s).trans h
      have f0 : (s.toList == [120, 120, 45, 115, 109, 97, 108, 108]) = false := by rw [ht]; rfl
      have f1 : (s.toList == [120, 45, 115, 109, 97, 108, 108]) = false := by rw [ht]; rfl
      have f2 : (s.toList == [115, 109, 97, 108, 108]) = false := by rw [ht]; rfl
      have f3 : (s.toList == [109, 101, 100, 105, 117, 109]) = false := by rw [ht]; rfl
      have f4 : (s.toList == [108, 97, 114, 103, 101]) = true := by rw [ht]; rfl
      clear h ht
      go_enter Tryd.func7, Tryd.ntmps7
      go_wp2
      go_ret
      exact ⟨rfl, rfl⟩
    · have ht : s.toList = [120, 45, 108, 97, 114, 103, 101] := (Lib.toList_data s).trans h
      have f0 : (s.toList == [120, 120, 45, 115, 109, 97, 108, 108]) = false := by rw [ht]; rfl
      have f1 : (s.toList == [120, 45, 115, 109, 97, 108, 108]) = false := by rw [ht]; rfl
      have f2 : (s.toList == [115, 109, 97, 108, 108]) = false := by rw [ht]; rfl
      have f3 : (s.toList == [109, 101, 100, 105, 117, 109]) = false := by rw [ht]; rfl
      have f4 : (s.toList == [108, 97, 114, 103, 101]) = false := by rw [ht]; rfl
      have f5 : (s.toList == [120, 45, 108, 97, 114, 103, 101]) = true := by rw [ht]; rfl
      clear h ht
      go_enter Tryd.func7, Tryd.ntmps7
      go_wp2
      go_ret
      exact ⟨rfl, rfl⟩
    · have ht : s.toList = [120, 120, 45, 108, 97, 114, 103, 101] := (Lib.toList_data s).trans h
      have f0 : (s.toList == [120, 120, 45, 115, 109, 97, 108, 108]) = false := by rw [ht]; rfl
      have f1 : (s.toList == [120, 45, 115, 109, 97, 108, 108]) = false := by rw [ht]; rfl
      have f2 : (s.toList == [115, 109, 97, 108, 108]) = false := by rw [ht]; rfl
      have f3 : (s.toList == [109, 101, 100, 105, 117, 109]) = false := by rw [ht]; rfl
      have f4 : (s.toList == [108, 97, 114, 103, 101]) = false := by rw [ht]; rfl
      have f5 : (s.toList == [120, 45, 108, 97, 114, 103, 101]) = false := by rw [ht]; rfl
      have f6 : (s.toList == [120, 120, 45, 108, 97, 114, 103, 101]) = true := by rw [ht]; rfl
      clear h ht
      go_enter Tryd.func7, Tryd.ntmps7
      go_wp2
      go_ret
      exact ⟨rfl, rfl⟩
    · have ht : s.toList = [120, 120, 120, 45, 108, 97, 114, 103, 101] := (Lib.toList_data s).trans h
      have f0 : (s.toList == [120, 120, 45, 115, 109, 97, 108, 108]) = false := by rw [ht]; rfl
      have f1 : (s.toList == [120, 45, 115, 109, 97, 108, 108]) = false := by rw [ht]; rfl
      have f2 : (s.toList == [115, 109, 97, 108, 108]) = false := by rw [ht]; rfl
      have f3 : (s.toList == [109, 101, 100, 105, 117, 109]) = false := by rw [ht]; rfl
      have f4 : (s.toList == [108, 97, 114, 103, 101]) = false := by rw [ht]; rfl
      have f5 : (s.toList == [120, 45, 108, 97, 114, 103, 101]) = false := by rw [ht]; rfl
      have f6 : (s.toList == [120, 120, 45, 108, 97, 114, 103, 101]) = false := by rw [ht]; rfl
      have f7 : (s.toList == [120, 120, 120, 45, 108, 97, 114, 103, 101]) = true := by rw [ht]; rfl
      clear h ht
      go_enter Tryd.func7, Tryd.ntmps7
      go_wp2
      go_ret
      exact ⟨rfl, rfl⟩
    · have ht : s.toList = [108, 97, 114, 103, 101, 114] := (Lib.toList_data s).trans h
      have f0 : (s.toList == [120, 120, 45, 115, 109, 97, 108, 108]) = false := by rw [ht]; rfl
      have f1 : (s.toList == [120, 45, 115, 109, 97, 108, 108]) = false := by rw [ht]; rfl
      have f2 : (s.toList == [115, 109, 97, 108, 108]) = false := by rw [ht]; rfl
      have f3 : (s.toList == [109, 101, 100, 105, 117, 109]) = false := by rw [ht]; rfl
      have f4 : (s.toList == [108, 97, 114, 103, 101]) = false := by rw [ht]; rfl
      have f5 : (s.toList == [120, 45, 108, 97, 114, 103, 101]) = false := by rw [ht]; rfl
      have f6 : (s.toList == [120, 120, 45, 108, 97, 114, 103, 101]) = false := by rw [ht]; rfl
      have f7 : (s.toList == [120, 120, 120, 45, 108, 97, 114, 103, 101]) = false := by rw [ht]; rfl
      have f8 : (s.toList == [108, 97, 114, 103, 101, 114]) = true := by rw [ht]; rfl
      clear h ht
      go_enter Tryd.func7, Tryd.ntmps7
      go_wp2
      go_ret
      exact ⟨rfl, rfl⟩
    · have ht : s.toList = [115, 109, 97, 108, 108, 101, 114] := (Lib.toList_data s).trans h
      have f0 : (s.toList == [120, 120, 45, 115, 109, 97, 108, 108]) = false := by rw [ht]; rfl
      have f1 : (s.toList == [120, 45, 115, 109, 97, 108, 108]) = false := by rw [ht]; rfl
      have f2 : (s.toList == [115, 109, 97, 108, 108]) = false := by rw [ht]; rfl
      have f3 : (s.toList == [109, 101, 100, 105, 117, 109]) = false := by rw [ht]; rfl
      have f4 : (s.toList == [108, 97, 114, 103, 101]) = false := by rw [ht]; rfl
      have f5 : (s.toList == [120, 45, 108, 97, 114, 103, 101]) = false := by rw [ht]; rfl
      have f6 : (s.toList == [120, 120, 45, 108, 97, 114, 103, 101]) = false := by rw [ht]; rfl
      have f7 : (s.toList == [120, 120, 120, 45, 108, 97, 114, 103, 101]) = false := by rw [ht]; rfl
      have f8 : (s.toList == [108, 97, 114, 103, 101, 114]) = false := by rw [ht]; rfl
      have f9 : (s.toList == [115, 109, 97, 108, 108, 101, 114]) = true := by rw [ht]; rfl
      clear h ht
      go_enter Tryd.func7, Tryd.ntmps7
      go_wp2
      go_ret
      exact ⟨rfl, rfl⟩
  · have e : decide (s.data.toList ∈ words) = false := by rw [decide_eq_false_iff_not]; exact h
    rw [e]
    clear e
    unfold words at h
    simp only [List.mem_cons, List.not_mem_nil, or_false, not_or] at h
    obtain ⟨h0, h1, h2, h3, h4, h5, h6, h7, h8, h9⟩ := h
    rw [← Lib.toList_data] at h0 h1 h2 h3 h4 h5 h6 h7 h8 h9
    have f0 : (s.toList == [120, 120, 45, 115, 109, 97, 108, 108]) = false := by rw [beq_eq_false_iff_ne]; exact h0
    have f1 : (s.toList == [120, 45, 115, 109, 97, 108, 108]) = false := by rw [beq_eq_false_iff_ne]; exact h1
    have f2 : (s.toList == [115, 109, 97, 108, 108]) = false := by rw [beq_eq_false_iff_ne]; exact h2
    have f3 : (s.toList == [109, 101, 100, 105, 117, 109]) = false := by rw [beq_eq_false_iff_ne]; exact h3
    have f4 : (s.toList == [108, 97, 114, 103, 101]) = false := by rw [beq_eq_false_iff_ne]; exact h4
    have f5 : (s.toList == [120, 45, 108, 97, 114, 103, 101]) = false := by rw [beq_eq_false_iff_ne]; exact h5
    have f6 : (s.toList == [120, 120, 45, 108, 97, 114, 103, 101]) = false := by rw [beq_eq_false_iff_ne]; exact h6
    have f7 : (s.toList == [120, 120, 120, 45, 108, 97, 114, 103, 101]) = false := by rw [beq_eq_false_iff_ne]; exact h7
    have f8 : (s.toList == [108, 97, 114, 103, 101, 114]) = false := by rw [beq_eq_false_iff_ne]; exact h8
    have f9 : (s.toList == [115, 109, 97, 108, 108, 101, 114]) = false := by rw [beq_eq_false_iff_ne]; exact h9
    clear h0 h1 h2 h3 h4 h5 h6 h7 h8 h9
    go_enter Tryd.func7, Tryd.ntmps7
    go_wp2
    go_ret
    exact ⟨rfl, rfl⟩
end Go.Proofs.YthjfpkokcecinaaDoor.WA
