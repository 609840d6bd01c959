/- FnParseRangeMediaFeatureMirrorsAroundTheName, walked for every input. -/
import Derived.Test.YtceafaddhbabhaaHe
namespace Go.Proofs.Ytceafaddhbabhaa.ZT
open Go.RowKit Go.Proofs.Ytceafaddhbabhaa.TB
set_option linter.unusedVariables false
set_option maxRecDepth 100000 in
set_option maxHeartbeats 1000000 in
theorem law6m (A : Option Addr) (n c : Nat) (K : Nat → Int) (T : Nat → ByteArray) (W L : Nat → Int) (w : World) (r : ZR w A n K T W L) (hA : A = none → n = 0) (hn : n ≤ maxLen) :
    Calls Try.prog 6 #[.slice A n c] w fun e w' => e = .returned (.bool true) ∧ Below w.heap.size w w' := by
  unfold maxLen at hn
  by_cases hb : n ≤ 16384
  · exact (law6 A n c K T W L w r hA hb).mono fun e w' h => h
  · have R := Lib.hid r
    clear r
    go_enter Try.func6, Try.ntmps6
    go_wp2_with fail
    refine (bytes23 A n c K T W L _ R.out hn).mono ?_
    rintro e w' ⟨bb, rfl, rfl⟩
    cases bb
    · go_wp2_with fail
      go_ret
      exact ⟨rfl, Below.refl _ _⟩
    go_wp2_with fail
    refine (size_big A n c _ (by omega) hn).mono ?_
    rintro e w' ⟨rfl, rfl⟩
    go_wp2_with fail
    go_ret
    exact ⟨rfl, Below.refl _ _⟩
end Go.Proofs.Ytceafaddhbabhaa.ZT
