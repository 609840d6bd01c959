/- The reserved words and the fold of n011_185, walked. -/
import Derived.Test.YtmfpgnedeonmiaaDoorShelf
import Derived.Test.YtmfpgnedeonmiaaDoorLow
import Derived.Test.YtmfpgnedeonmiaaDoorTab
import Derived.Test.YtmfpgnedeonmiaaDoorOwn
import Derived.WalkKit
import Derived.WalkLawsBesides
import Derived.WalkSpells
import Derived.Lib.Hide
import Derived.Outline
import Derived.Handy
import Derived.Laws.Tables
import Derived.Laws.IdiomStrings
import Derived.Deep.QuietTactic
import Derived.BigQuiet
import Derived.LoopTactic
import Derived.RegionTactic
import Derived.BigRegion
import Derived.Deep.Cut
import Derived.Deep.DeepCutAuto
namespace Go.Proofs.YtmfpgnedeonmiaaDoor.WA
open Go.RowKit Go.Lib Go.Proofs.YtmfpgnedeonmiaaDoor.LO Go.Proofs.YtmfpgnedeonmiaaDoor.TB Go.Proofs.YtmfpgnedeonmiaaDoor.OW
set_option linter.unusedVariables false
def mapW : List (List UInt8) := [[105, 110, 105, 116, 105, 97, 108], [105, 110, 104, 101, 114, 105, 116], [117, 110, 115, 101, 116], [100, 101, 102, 97, 117, 108, 116], [114, 101, 118, 101, 114, 116], [114, 101, 118, 101, 114, 116, 45, 108, 97, 121, 101, 114]]
def words : List (List UInt8) := [[110, 111, 110, 101], [105, 110, 105, 116, 105, 97, 108], [105, 110, 104, 101, 114, 105, 116], [117, 110, 115, 101, 116], [100, 101, 102, 97, 117, 108, 116], [114, 101, 118, 101, 114, 116], [114, 101, 118, 101, 114, 116, 45, 108, 97, 121, 101, 114]]
theorem words_ascii : ∀ w ∈ words, ∀ c ∈ w, c.toNat < 128 := by decide
/-- The map of the keywords, as the look-ups see it. -/
def KW (w : World) : Prop := ∃ bm, w.cell? ⟨0, 0, none⟩ = some (.map (some bm)) ∧ 0 < w.heap.size ∧ bm < w.heap.size ∧
  ∀ w' : World, w'.heap[bm]? = w.heap[bm]? → ∀ s : ByteArray, s.size ≤ maxLen → (Instr.lookup 115 (.map (some bm)) (.string s) false).run Tryd.prog w' = .ok (.bool (decide (s.data.toList ∈ mapW))) w'
theorem KW.below {w w' : World} (h : KW w) (hb : Below w.heap.size w w') : KW w' := by
  obtain ⟨bm, h1, h0, h2, h3⟩ := h
  exact ⟨bm, by rw [hb.cell h0]; exact h1, Nat.lt_of_lt_of_le h0 hb.size, Nat.lt_of_lt_of_le h2 hb.size, fun w'' e s hs => h3 w'' (e.trans (hb.block bm h2)) s hs⟩
/-- The library's three tables, and the keywords. -/
def Tabs (w : World) : Prop := CaseVar 2 caseA w ∧ Utf8Tabs 4 5 w ∧ KW w
theorem Tabs.below {w w' : World} (h : Tabs w) (hb : Below w.heap.size w w') : Tabs w' := ⟨CaseVar_below h.1 hb, Utf8Tabs_below h.2.1 hb, h.2.2.below hb⟩
theorem below_drewN {B : Nat} {a w : World} (h : Below B a w) (n : Nat) : Below B a (w.drewN n) := ⟨h.os, h.tape, h.output, h.size, h.block⟩
def low (s : ByteArray) : ByteArray := ⟨(toLowerD s.data.toList).toArray⟩
theorem lower (s : ByteArray) (w : World) (hs : s.size ≤ 1048576) (hT : Tabs w) : Calls Tryd.prog 28 #[.string s] w fun e w' => e = .returned (.string (low s)) ∧ Below w.heap.size w w' :=
  Tryd.strings_ToLower_any s w (by omega) hT.1 hT.2.1
/-- A word in a switch. -/
def SomeB (b : Bool) (w : World) (e : Ending) (w' : World) : Prop := e = .returned (.bool b) ∧ Below w.heap.size w w'
end Go.Proofs.YtmfpgnedeonmiaaDoor.WA
