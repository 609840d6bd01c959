/- FnCompactThenExpandGivesTheSameFourSides: the walk. Printed by gen_compactlaw.py. -/
import Derived.Test.YtceafaddhbabhaaGe
import Derived.Deep.RegionHeld3
namespace Go.Proofs.Ytceafaddhbabhaa.ZT
open Go.RowKit Go.Proofs.Ytceafaddhbabhaa.TB
set_option linter.unusedVariables false
set_option maxRecDepth 100000 in
set_option maxHeartbeats 8000000 in
theorem law3_no (A : Option Addr) (n c : Nat) (K : Nat → Int) (T : Nat → ByteArray) (W L : Nat → Int) (s : ByteArray) (mw : Bool) (w : World) (r : ZR w A n K T W L) (hA : A = none → n = 0) (hn : n ≤ 16384) (hs : s.size ≤ 1048576) (ho : ¬ okAll n s K T) :
    Calls Try.prog 3 #[.slice A n c, .string s, .bool mw] w fun e w' => e = .returned (.bool true) ∧ Below w.heap.size w w' := by
  have R := Lib.hid r
  have HO := Lib.hid ho
  clear r ho
  go_enter Try.func3, Try.ntmps3
  go_wp2_with fail
  refine (bytes7 A n c s mw K T W L _ R.out (by omega) (by omega)).mono ?_
  rintro e w' ⟨b1, rfl, rfl⟩
  cases b1
  · go_wp2_with fail
    go_ret
    exact ⟨rfl, Below.refl _ _⟩
  go_wp2_with fail
  refine (size_any A n c K T W L _ R.out hn).mono ?_
  rintro e w' ⟨N, ⟨hN0, hN1⟩, rfl, rfl⟩
  by_cases hN : 1048576 < N + s.size
  · go_wp2_with fail
    go_ret
    exact ⟨rfl, Below.refl _ _⟩
  go_wp2_with fail
  refine (clone_any A n c K T W L _ R.out hA hn).mono ?_
  rintro e w1 ⟨A1, c1, rfl, hc1, hz1, ha1, hb1⟩
  have Z1 := Lib.hid hz1
  have HA1 := Lib.hid ha1
  clear hz1 ha1 R
  go_wp2_with fail
  refine (toks_any A1 n c1 K T W L _ Z1.out HA1.out hn).mono ?_
  rintro e w2 ⟨A2, c2, rfl, hc2, hc2', ht2, ha2, hb2⟩
  have T2 := Lib.hid ht2
  clear ht2 ha2
  go_wp2_with fail
  refine (zzExp A2 n c2 s K T W L _ T2.out hc2 hc2').mono ?_
  rintro e w3 ⟨Q, bb, hq, rfl, hb3⟩
  have HQ := Lib.hid hq
  have BQ := Lib.hid ((hb1.trans (hb2.mono hb1.size)).trans (hb3.mono (Nat.le_trans hb1.size hb2.size)))
  have BN := Lib.hid (Blk.new w3 35 z28)
  unfold z28 at BN
  clear hb1 hb2 hb3 Z1 T2 HA1
  obtain ⟨hq1, rfl⟩ := hq.no HO.out
  clear hq hq1
  have BF := Lib.hid (Blk.fill BN.out Q (by rw [HQ.out.size.1]; rfl))
  have BE := Lib.hid (below_fill (w := w3) (B := w3.heap.size) (w0 := w3) (g := w3.heap.size) Q.toList 0 ((Below.refl _ w3).alloc (Nat.le_refl _) (.cells #[.pointer none, .string { data := #[] }, .int .i32 0, .int .u32 0, .int .u16 0, .int .u8 0, .int .u8 0, .pointer none, .string { data := #[] }, .int .i32 0, .int .u32 0, .int .u16 0, .int .u8 0, .int .u8 0, .pointer none, .string { data := #[] }, .int .i32 0, .int .u32 0, .int .u16 0, .int .u8 0, .int .u8 0, .pointer none, .string { data := #[] }, .int .i32 0, .int .u32 0, .int .u16 0, .int .u8 0, .int .u8 0] 35)) (Nat.le_refl _))
  have BQE := Lib.hid (BQ.out.trans (BE.out.mono BQ.out.size))
  go_wp2_with (refine wpList_store_mid rfl 35 (.tmp 7) (.tmp 34) rfl w3.heap.size 0 Q rfl rfl (by rw [HQ.out.size.1]; exact Blk.there BN.out) (by rw [HQ.out.size.1]; exact info35) HQ.out.size.2 ?_)
  go_ret
  exact ⟨rfl, BQ.out.trans (BE.out.mono BQ.out.size)⟩
end Go.Proofs.Ytceafaddhbabhaa.ZT
