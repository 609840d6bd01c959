/- The reserved words of n011_231, its tables and its lower case. -/
import Derived.Test.YtdlaponmnepciaaDoorShelf
import Derived.Test.YtdlaponmnepciaaDoorFk
import Derived.Test.YtdlaponmnepciaaDoorTab
import Derived.Test.YtdlaponmnepciaaDoorOwn
import Derived.WalkKit
import Derived.WalkLawsBesides
import Derived.WalkSpells
import Derived.Lib.Hide
import Derived.Outline
import Derived.Handy
import Derived.Laws.Tables
import Derived.Laws.IdiomStrings
import Derived.Deep.QuietTactic
import Derived.BigQuiet
import Derived.LoopTactic
import Derived.RegionTactic
import Derived.BigRegion
import Derived.Deep.Cut
import Derived.Deep.DeepCutAuto
namespace Go.Proofs.YtdlaponmnepciaaDoor.WA
open Go.RowKit Go.Lib Go.Proofs.YtdlaponmnepciaaDoor.LO Go.Proofs.YtdlaponmnepciaaDoor.TB Go.Proofs.YtdlaponmnepciaaDoor.OW
set_option linter.unusedVariables false
def wideW : List (List UInt8) := [[105, 110, 105, 116, 105, 97, 108], [105, 110, 104, 101, 114, 105, 116], [117, 110, 115, 101, 116], [100, 101, 102, 97, 117, 108, 116], [114, 101, 118, 101, 114, 116], [114, 101, 118, 101, 114, 116, 45, 108, 97, 121, 101, 114]]
def predW : List (List UInt8) := [[97, 114, 97, 98, 105, 99, 45, 105, 110, 100, 105, 99], [97, 114, 109, 101, 110, 105, 97, 110], [98, 101, 110, 103, 97, 108, 105], [99, 97, 109, 98, 111, 100, 105, 97, 110], [99, 106, 107, 45, 100, 101, 99, 105, 109, 97, 108], [100, 101, 99, 105, 109, 97, 108, 45, 108, 101, 97, 100, 105, 110, 103, 45, 122, 101, 114, 111], [100, 101, 99, 105, 109, 97, 108], [100, 101, 118, 97, 110, 97, 103, 97, 114, 105], [103, 101, 111, 114, 103, 105, 97, 110], [103, 117, 106, 97, 114, 97, 116, 105], [103, 117, 114, 109, 117, 107, 104, 105], [104, 101, 98, 114, 101, 119], [107, 97, 110, 110, 97, 100, 97], [107, 104, 109, 101, 114], [108, 97, 111], [108, 111, 119, 101, 114, 45, 97, 114, 109, 101, 110, 105, 97, 110], [108, 111, 119, 101, 114, 45, 114, 111, 109, 97, 110], [109, 97, 108, 97, 121, 97, 108, 97, 109], [109, 111, 110, 103, 111, 108, 105, 97, 110], [109, 121, 97, 110, 109, 97, 114], [111, 114, 105, 121, 97], [112, 101, 114, 115, 105, 97, 110], [116, 97, 109, 105, 108], [116, 101, 108, 117, 103, 117], [116, 104, 97, 105], [116, 105, 98, 101, 116, 97, 110], [117, 112, 112, 101, 114, 45, 97, 114, 109, 101, 110, 105, 97, 110], [117, 112, 112, 101, 114, 45, 114, 111, 109, 97, 110], [104, 105, 114, 97, 103, 97, 110, 97, 45, 105, 114, 111, 104, 97], [104, 105, 114, 97, 103, 97, 110, 97], [107, 97, 116, 97, 107, 97, 110, 97, 45, 105, 114, 111, 104, 97], [107, 97, 116, 97, 107, 97, 110, 97], [108, 111, 119, 101, 114, 45, 97, 108, 112, 104, 97], [108, 111, 119, 101, 114, 45, 103, 114, 101, 101, 107], [108, 111, 119, 101, 114, 45, 108, 97, 116, 105, 110], [117, 112, 112, 101, 114, 45, 97, 108, 112, 104, 97], [117, 112, 112, 101, 114, 45, 108, 97, 116, 105, 110], [99, 105, 114, 99, 108, 101], [100, 105, 115, 99], [100, 105, 115, 99, 108, 111, 115, 117, 114, 101, 45, 99, 108, 111, 115, 101, 100], [100, 105, 115, 99, 108, 111, 115, 117, 114, 101, 45, 111, 112, 101, 110], [115, 113, 117, 97, 114, 101], [99, 106, 107, 45, 101, 97, 114, 116, 104, 108, 121, 45, 98, 114, 97, 110, 99, 104], [99, 106, 107, 45, 104, 101, 97, 118, 101, 110, 108, 121, 45, 115, 116, 101, 109], [106, 97, 112, 97, 110, 101, 115, 101, 45, 102, 111, 114, 109, 97, 108], [106, 97, 112, 97, 110, 101, 115, 101, 45, 105, 110, 102, 111, 114, 109, 97, 108], [107, 111, 114, 101, 97, 110, 45, 104, 97, 110, 103, 117, 108, 45, 102, 111, 114, 109, 97, 108], [107, 111, 114, 101, 97, 110, 45, 104, 97, 110, 106, 97, 45, 102, 111, 114, 109, 97, 108], [107, 111, 114, 101, 97, 110, 45, 104, 97, 110, 106, 97, 45, 105, 110, 102, 111, 114, 109, 97, 108], [115, 105, 109, 112, 45, 99, 104, 105, 110, 101, 115, 101, 45, 102, 111, 114, 109, 97, 108], [115, 105, 109, 112, 45, 99, 104, 105, 110, 101, 115, 101, 45, 105, 110, 102, 111, 114, 109, 97, 108], [116, 114, 97, 100, 45, 99, 104, 105, 110, 101, 115, 101, 45, 102, 111, 114, 109, 97, 108], [116, 114, 97, 100, 45, 99, 104, 105, 110, 101, 115, 101, 45, 105, 110, 102, 111, 114, 109, 97, 108], [101, 116, 104, 105, 111, 112, 105, 99, 45, 110, 117, 109, 101, 114, 105, 99]]
def noneW : List UInt8 := [110, 111, 110, 101]
def allW : List (List UInt8) := noneW :: (wideW ++ predW)
theorem allW_ascii : ∀ w ∈ allW, ∀ c ∈ w, c.toNat < 128 := by decide
/-- A listed map, as the look-ups see it. -/
def KW (g : Nat) (ws : List (List UInt8)) (w : World) : Prop := ∃ bm, w.cell? ⟨g, 0, none⟩ = some (.map (some bm)) ∧ g < w.heap.size ∧ bm < w.heap.size ∧
  ∀ w' : World, w'.heap[bm]? = w.heap[bm]? → ∀ s : ByteArray, s.size ≤ maxLen → (Instr.lookup 95 (.map (some bm)) (.string s) false).run Tryd.prog w' = .ok (.bool (decide (s.data.toList ∈ ws))) w'
theorem KW.below {g : Nat} {ws : List (List UInt8)} {B : Nat} {w w' : World} (h : KW g ws w) (hB : w.heap.size ≤ B) (hb : Below B w w') : KW g ws w' := by
  obtain ⟨bm, h1, h0, h2, h3⟩ := h
  exact ⟨bm, by rw [hb.cell (p := ⟨g, 0, none⟩) (Nat.lt_of_lt_of_le h0 hB)]; exact h1, Nat.lt_of_lt_of_le h0 hb.size, Nat.lt_of_lt_of_le h2 hb.size, fun w'' e s hs => h3 w'' (e.trans (hb.block bm (Nat.lt_of_lt_of_le h2 hB))) s hs⟩
abbrev G0 : Nat := 0
abbrev G1 : Nat := 1
abbrev GR : Nat := 2
/-- The library's three tables, the two maps, the invalid reference. -/
def Tabs (w : World) : Prop := CaseVar 3 caseA w ∧ Utf8Tabs 5 6 w ∧ KW G0 wideW w ∧ KW G1 predW w ∧ GR < w.heap.size ∧ w.cell? ⟨GR, 0, none⟩ = some (.int .u32 4294967295) ∧ w.cell? ⟨GR, 1, none⟩ = some (.int .u32 4294967295)
theorem Tabs.below {w w' : World} (h : Tabs w) (hb : Below w.heap.size w w') : Tabs w' :=
  ⟨CaseVar_below h.1 hb, Utf8Tabs_below h.2.1 hb, h.2.2.1.below (Nat.le_refl _) hb, h.2.2.2.1.below (Nat.le_refl _) hb, Nat.lt_of_lt_of_le h.2.2.2.2.1 hb.size, by rw [hb.cell (p := ⟨GR, 0, none⟩) h.2.2.2.2.1]; exact h.2.2.2.2.2.1, by rw [hb.cell (p := ⟨GR, 1, none⟩) h.2.2.2.2.1]; exact h.2.2.2.2.2.2⟩
theorem below_drewN {B : Nat} {a w : World} (h : Below B a w) (n : Nat) : Below B a (w.drewN n) := ⟨h.os, h.tape, h.output, h.size, h.block⟩
def low (s : ByteArray) : ByteArray := ⟨(toLowerD s.data.toList).toArray⟩
theorem low_list (s : ByteArray) : (low s).toList = toLowerD s.data.toList := by unfold low; simp
theorem low_data (s : ByteArray) : (low s).data.toList = toLowerD s.data.toList := by unfold low; simp
theorem low_le (s : ByteArray) (hs : s.size ≤ 1048576) : (low s).size ≤ maxLen := by
  have h := lowD_len s.data.toList
  have e : (low s).size = (toLowerD s.data.toList).length := by rw [Lib.size_eq, low_data]
  rw [e]
  rw [← Lib.size_eq] at h
  unfold maxLen
  omega
theorem lower (s : ByteArray) (w : World) (hs : s.size ≤ 1048576) (hT : Tabs w) : Calls Tryd.prog 19 #[.string s] w fun e w' => e = .returned (.string (low s)) ∧ Below w.heap.size w w' :=
  Tryd.strings_ToLower_any s w (by omega) hT.1 hT.2.1
def BP (b : Bool) (w : World) (e : Ending) (w' : World) : Prop := e = .returned (.bool b) ∧ Below w.heap.size w w'
def BS (b : Bool) (w : World) (e : Ending) (w' : World) : Prop := e = .returned (.bool b) ∧ w = w'
end Go.Proofs.YtdlaponmnepciaaDoor.WA
