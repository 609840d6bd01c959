/- FnExpandTokenQuadAcceptsExactlyOneToFourAllowedTokens: the walk, all cases. -/
import Derived.Test.YtceafaddhbabhaaFy
import Derived.Test.YtceafaddhbabhaaFn
namespace Go.Proofs.Ytceafaddhbabhaa.ZT
open Go.RowKit Go.Proofs.Ytceafaddhbabhaa.TB
set_option linter.unusedVariables false
set_option maxRecDepth 100000 in
set_option maxHeartbeats 1000000 in
theorem law5 (A : Option Addr) (n c : Nat) (K : Nat → Int) (T : Nat → ByteArray) (W L : Nat → Int) (s : ByteArray) (w : World) (r : ZR w A n K T W L) (hA : A = none → n = 0) (hn : n ≤ maxLen) (hs : s.size ≤ maxLen) :
    Calls Try.prog 5 #[.slice A n c, .string s] w fun e w' => e = .returned (.bool true) ∧ Below w.heap.size w w' := by
  unfold maxLen at hn hs
  by_cases h1 : s.size ≤ 1048576
  · by_cases h2 : n ≤ 16384
    · by_cases ho : okAll n s K T
      · exact law5_yes A n c K T W L s w r hA h2 h1 ho
      · by_cases hp : 1 ≤ n
        · exact law5_nop A n c K T W L s w r hA h2 h1 ho hp
        · exact law5_noz A n c K T W L s w r hA h2 h1 ho (by omega)
    · have R := Lib.hid r
      clear r
      go_enter Try.func5, Try.ntmps5
      go_wp2_with fail
      refine (bytes19 A n c s K T W L _ R.out hn hs).mono ?_
      rintro e w' ⟨bb, rfl, rfl⟩
      cases bb
      · go_wp2_with fail
        go_ret
        exact ⟨rfl, Below.refl _ _⟩
      go_wp2_with fail
      refine (size_big A n c _ (by omega) hn).mono ?_
      rintro e w' ⟨rfl, rfl⟩
      go_wp2_with fail
      go_ret
      exact ⟨rfl, Below.refl _ _⟩
  · have R := Lib.hid r
    clear r
    go_enter Try.func5, Try.ntmps5
    go_wp2_with fail
    refine (bytes19 A n c s K T W L _ R.out hn hs).mono ?_
    rintro e w' ⟨bb, rfl, rfl⟩
    cases bb
    · go_wp2_with fail
      go_ret
      exact ⟨rfl, Below.refl _ _⟩
    go_wp2_with fail
    go_ret
    exact ⟨rfl, Below.refl _ _⟩
end Go.Proofs.Ytceafaddhbabhaa.ZT
