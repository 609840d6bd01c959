/- FnCompactThenExpandGivesTheSameFourSides: the walk, all cases. -/
import Derived.Test.YtceafaddhbabhaaGf
import Derived.Test.YtceafaddhbabhaaGg
namespace Go.Proofs.Ytceafaddhbabhaa.ZT
open Go.RowKit Go.Proofs.Ytceafaddhbabhaa.TB
set_option linter.unusedVariables false
set_option maxRecDepth 100000 in
set_option maxHeartbeats 1000000 in
theorem law3 (A : Option Addr) (n c : Nat) (K : Nat → Int) (T : Nat → ByteArray) (W L : Nat → Int) (s : ByteArray) (mw : Bool) (w : World) (r : ZR w A n K T W L) (hA : A = none → n = 0) (hn : n ≤ maxLen) (hs : s.size ≤ maxLen) :
    Calls Try.prog 3 #[.slice A n c, .string s, .bool mw] w fun e w' => e = .returned (.bool true) ∧ Below w.heap.size w w' := by
  unfold maxLen at hn hs
  by_cases h1 : s.size ≤ 1048576
  · by_cases h2 : n ≤ 16384
    · by_cases ho : okAll n s K T
      · exact law3_yes A n c K T W L s mw w r hA h2 h1 ho
      · exact law3_no A n c K T W L s mw w r hA h2 h1 ho
    · have R := Lib.hid r
      clear r
      go_enter Try.func3, Try.ntmps3
      go_wp2_with fail
      refine (bytes7 A n c s mw K T W L _ R.out hn hs).mono ?_
      rintro e w' ⟨bb, rfl, rfl⟩
      cases bb
      · go_wp2_with fail
        go_ret
        exact ⟨rfl, Below.refl _ _⟩
      go_wp2_with fail
      refine (size_big A n c _ (by omega) hn).mono ?_
      rintro e w' ⟨rfl, rfl⟩
      go_wp2_with fail
      go_ret
      exact ⟨rfl, Below.refl _ _⟩
  · have R := Lib.hid r
    clear r
    go_enter Try.func3, Try.ntmps3
    go_wp2_with fail
    refine (bytes7 A n c s mw K T W L _ R.out hn hs).mono ?_
    rintro e w' ⟨bb, rfl, rfl⟩
    cases bb
    · go_wp2_with fail
      go_ret
      exact ⟨rfl, Below.refl _ _⟩
    go_wp2_with fail
    go_ret
    exact ⟨rfl, Below.refl _ _⟩
end Go.Proofs.Ytceafaddhbabhaa.ZT
