/- FnScanMediaComparisonConsumesExactlyItsOperator: the walk. -/
import Derived.Test.YtceafaddhbabhaaSeNone
import Derived.Test.YtceafaddhbabhaaSeEq
import Derived.Test.YtceafaddhbabhaaSeLt
import Derived.Test.YtceafaddhbabhaaSeLe
import Derived.Test.YtceafaddhbabhaaSeGt
import Derived.Test.YtceafaddhbabhaaSeGe
namespace Go.Proofs.Ytceafaddhbabhaa.ZT
open Go.RowKit Go.Proofs.Ytceafaddhbabhaa.TB
set_option linter.unusedVariables false
set_option maxRecDepth 100000 in
set_option maxHeartbeats 4000000 in
theorem law4_zero (A : Option Addr) (c : Nat) (w : World) : Calls Try.prog 4 #[.slice A 0 c] w fun e w' => e = .returned (.bool true) ∧ Below w.heap.size w w' := by
  have R := Lib.hid (show ZR w A 0 (fun _ => 0) (fun _ => ByteArray.empty) (fun _ => 0) (fun _ => 0) from fun h => absurd h (by omega))
  go_enter Try.func4, Try.ntmps4
  go_wp2_with fail
  refine (bytes13 A 0 c _ _ _ _ _ R.out (by omega)).mono ?_
  rintro e w' ⟨bb, rfl, rfl⟩
  cases bb
  · go_wp2_with fail
    go_ret
    exact ⟨rfl, Below.refl _ _⟩
  go_wp2_with fail
  refine (size_any A 0 c _ _ _ _ _ R.out (by omega)).mono ?_
  rintro e w' ⟨N, ⟨hN0, hN1⟩, rfl, rfl⟩
  by_cases hN : 1048576 < N
  · go_wp2_with fail
    go_ret
    exact ⟨rfl, Below.refl _ _⟩
  go_wp2_with fail
  refine (clone_any A 0 c _ _ _ _ _ R.out (fun _ => rfl) (by omega)).mono ?_
  rintro e w1 ⟨A1, c1, rfl, hc1, hz1, ha1, hb1⟩
  have Z1 := Lib.hid hz1
  clear hz1 ha1 R
  go_wp2_with fail
  refine (toks_any A1 0 c1 _ _ _ _ _ Z1.out (fun _ => rfl) (by omega)).mono ?_
  rintro e w2 ⟨A2, c2', rfl, hc2, hc2', ht2, ha2, hb2⟩
  have T2 := Lib.hid ht2
  clear ht2 ha2
  go_wp2_with fail
  refine (zzScan A2 0 c2' _ _ _ _ _ T2.out hc2 hc2').mono ?_
  rintro e w3 hsc
  obtain ⟨A3, rfl, ht3, hb3⟩ := (show ScanQ 0 c2' 0 0 _ _ _ _ _ e w3 from hsc)
  clear hsc ht3 T2 Z1
  have BQ := Lib.hid ((hb1.trans (hb2.mono hb1.size)).trans (hb3.mono (Nat.le_trans hb1.size hb2.size)))
  clear hb1 hb2 hb3
  go_wp2_with fail
  go_quiet (fail)
  go_wp2_with fail
  refine (width0 _).mono ?_
  rintro e w7 ⟨rfl, rfl⟩
  go_wp2_with fail
  refine (op0 A1 0 c1 _).mono ?_
  rintro e w8 ⟨rfl, hb8⟩
  have BQ2 := Lib.hid (BQ.out.trans (Below.mono (Below.trans (below_drewN (Below.refl _ _) _) hb8) BQ.out.size))
  clear hb8 BQ
  go_wp2_with fail
  go_loopw [8] (fun i wr => i = .int .i64 0 ∧ Hid (Below w.heap.size w wr)) (fun i _ => 0)
  case atStart => exact ⟨rfl, BQ2⟩
  case round =>
    obtain ⟨rfl, B3⟩ := hrel
    go_wp2_with fail
    go_ret
    exact ⟨rfl, B3.out⟩
theorem bcase {n : Nat} {K W : Nat → Int} : (2 ≤ n ∧ K 1 = 18 ∧ wsB W = true) ↔ gB n K W = true := by
  unfold gB; simp [and_assoc]
set_option maxRecDepth 100000 in
set_option maxHeartbeats 1000000 in
theorem law4 (A : Option Addr) (n c : Nat) (K : Nat → Int) (T : Nat → ByteArray) (W L : Nat → Int) (w : World) (r : ZR w A n K T W L) (hA : A = none → n = 0) (hn : n ≤ maxLen) :
    Calls Try.prog 4 #[.slice A n c] w fun e w' => e = .returned (.bool true) ∧ Below w.heap.size w w' := by
  unfold maxLen at hn
  by_cases h0 : n = 0
  · subst h0; exact law4_zero A c w
  by_cases hb : n ≤ 16384
  · by_cases k1 : K 0 = 18
    · exact law4_eq A n c K T W L w r hA hb (by omega) (by unfold cmpOf; rw [if_neg h0, if_pos k1]) (eqt k1) (by rw [k1]; rfl) (by rw [k1]; rfl)
    by_cases k2 : K 0 = 21
    · by_cases g : gB n K W = true
      · exact law4_le A n c K T W L w r hA hb (by omega) (by unfold cmpOf; rw [if_neg h0, if_neg k1, if_pos k2, if_pos (bcase.2 g)]) (eqf k1) (eqt k2) (by rw [k2]; rfl) g
      · exact law4_lt A n c K T W L w r hA hb (by omega) (by unfold cmpOf; rw [if_neg h0, if_neg k1, if_pos k2, if_neg (fun h => g (bcase.1 h))]) (eqf k1) (eqt k2) (by rw [k2]; rfl) (by simpa using g)
    by_cases k3 : K 0 = 20
    · by_cases g : gB n K W = true
      · exact law4_ge A n c K T W L w r hA hb (by omega) (by unfold cmpOf; rw [if_neg h0, if_neg k1, if_neg k2, if_pos k3, if_pos (bcase.2 g)]) (eqf k1) (eqf k2) (eqt k3) g
      · exact law4_gt A n c K T W L w r hA hb (by omega) (by unfold cmpOf; rw [if_neg h0, if_neg k1, if_neg k2, if_pos k3, if_neg (fun h => g (bcase.1 h))]) (eqf k1) (eqf k2) (eqt k3) (by simpa using g)
    · exact law4_none A n c K T W L w r hA hb (by omega) (by unfold cmpOf; rw [if_neg h0, if_neg k1, if_neg k2, if_neg k3]) (eqf k1) (eqf k2) (eqf k3)
  · have R := Lib.hid r
    clear r
    go_enter Try.func4, Try.ntmps4
    go_wp2_with fail
    refine (bytes13 A n c K T W L _ R.out hn).mono ?_
    rintro e w' ⟨bb, rfl, rfl⟩
    cases bb
    · go_wp2_with fail
      go_ret
      exact ⟨rfl, Below.refl _ _⟩
    go_wp2_with fail
    refine (size_big A n c _ (by omega) hn).mono ?_
    rintro e w' ⟨rfl, rfl⟩
    go_wp2_with fail
    go_ret
    exact ⟨rfl, Below.refl _ _⟩
end Go.Proofs.Ytceafaddhbabhaa.ZT
