/- compactTokenQuad, all cases; and the exported wrapper. -/
import Derived.Test.YtceafaddhbabhaaGc1
import Derived.Test.YtceafaddhbabhaaGc2
import Derived.Test.YtceafaddhbabhaaGc3
import Derived.Test.YtceafaddhbabhaaGc4
namespace Go.Proofs.Ytceafaddhbabhaa.ZT
open Go.RowKit Go.Proofs.Ytceafaddhbabhaa.TB
set_option linter.unusedVariables false
def cm (K : Nat → Int) (T : Nat → ByteArray) : Nat :=
  if eqT (K 3) (K 1) (T 3) (T 1) = true then (if eqT (K 2) (K 0) (T 2) (T 0) = true then (if eqT (K 1) (K 0) (T 1) (T 0) = true then 1 else 2) else 3) else 4
theorem compact_any (K : Nat → Int) (T : Nat → ByteArray) (W L : Nat → Int) (mw : Bool) (w : World) :
    Calls Try.prog 28 #[.agg #[.pointer none, .string (T 0), .int .i32 (L 0), .int .u32 0, .int .u16 0, .int .u8 (K 0), .int .u8 (W 0)], .agg #[.pointer none, .string (T 1), .int .i32 (L 1), .int .u32 0, .int .u16 0, .int .u8 (K 1), .int .u8 (W 1)], .agg #[.pointer none, .string (T 2), .int .i32 (L 2), .int .u32 0, .int .u16 0, .int .u8 (K 2), .int .u8 (W 2)], .agg #[.pointer none, .string (T 3), .int .i32 (L 3), .int .u32 0, .int .u16 0, .int .u8 (K 3), .int .u8 (W 3)], .bool mw] w (CompP (cm K T) K T L w) := by
  unfold cm
  cases e31 : eqT (K 3) (K 1) (T 3) (T 1)
  · exact compact4 K T W L mw w e31
  · cases e20 : eqT (K 2) (K 0) (T 2) (T 0)
    · exact compact3 K T W L mw w e31 e20
    · cases e10 : eqT (K 1) (K 0) (T 1) (T 0)
      · exact compact2 K T W L mw w e31 e20 e10
      · exact compact1 K T W L mw w e31 e20 e10
set_option maxRecDepth 100000 in
set_option maxHeartbeats 1000000 in
theorem zzCompact (K : Nat → Int) (T : Nat → ByteArray) (W L : Nat → Int) (mw : Bool) (w : World) :
    Calls Try.prog 12 #[.agg #[.pointer none, .string (T 0), .int .i32 (L 0), .int .u32 0, .int .u16 0, .int .u8 (K 0), .int .u8 (W 0)], .agg #[.pointer none, .string (T 1), .int .i32 (L 1), .int .u32 0, .int .u16 0, .int .u8 (K 1), .int .u8 (W 1)], .agg #[.pointer none, .string (T 2), .int .i32 (L 2), .int .u32 0, .int .u16 0, .int .u8 (K 2), .int .u8 (W 2)], .agg #[.pointer none, .string (T 3), .int .i32 (L 3), .int .u32 0, .int .u16 0, .int .u8 (K 3), .int .u8 (W 3)], .bool mw] w (CompP (cm K T) K T L w) := by
  have HC := Lib.hid (fun W' => compact_any K T W L mw W')
  have B0 := Lib.hid (fun (o1 o2 o3 o4 : Obj) => show Below w.heap.size w ((((w.alloc o1).alloc o2).alloc o3).alloc o4) from ((((Below.refl _ w).alloc (Nat.le_refl _) _).alloc (by simp) _).alloc (by simp; omega) _).alloc (by simp; omega) _)
  go_enter Try.func12, Try.ntmps12
  go_wp2_with fail
  refine (HC.out _).mono ?_
  rintro e w1 ⟨g, W', rfl, hr, hb⟩
  have HR := Lib.hid hr
  have BB := Lib.hid ((B0.out _ _ _ _).trans (hb.mono (B0.out _ _ _ _).size))
  clear hr hb HC B0
  go_wp2_with fail
  go_ret
  exact ⟨g, W', rfl, HR.out, BB.out⟩
set_option maxRecDepth 100000 in
set_option maxHeartbeats 1000000 in
theorem bytes7 (A : Option Addr) (n c : Nat) (s : ByteArray) (mw : Bool) (K : Nat → Int) (T : Nat → ByteArray) (W L : Nat → Int) (w : World) (r : ZR w A n K T W L) (hn : n ≤ 9223372036854775807) (hs : s.size ≤ 9223372036854775807) :
    Calls Try.prog 7 #[.slice A n c, .string s, .bool mw] w (SomeBool w) := by
  have R := Lib.hid r
  clear r
  by_cases h : n ≤ 1048576
  · go_enter Try.func7, Try.ntmps7
    go_wp2
    go_loop [7, 8] (fun s i => ∃ (k : Nat) (N : Int), k ≤ n ∧ 0 ≤ N ∧ N ≤ 1048576 ∧ i = .int .i64 k ∧ s = .int .i64 N) (fun _ i => n - (intOf i).toNat)
    case atStart => exact ⟨0, (n : Int), Nat.zero_le _, by omega, by omega, rfl, rfl⟩
    case round =>
      obtain ⟨k, N, hk, h0, h1, rfl, rfl⟩ := hrel
      by_cases hlt : k < n
      · obtain ⟨b, o, rfl, hb, hc⟩ := R.out (by omega)
        have x1 := (hc k hlt).2.1
        clear hc
        have q1 : (0 : Int) ≤ (k : Int) := by omega
        have q2 : (k : Int) < (n : Int) := by omega
        go_wp2
        · go_ret
          exact ⟨false, rfl, rfl⟩
        · go_ret
          exact ⟨false, rfl, rfl⟩
        · go_round
          case rel => exact ⟨k + 1, N + (T k).size, by omega, by omega, by omega, by go_num, rfl⟩
          case measure => simp [intOf]; omega
      · go_wp2
        all_goals
          go_ret
          exact ⟨_, rfl, rfl⟩
  · go_enter Try.func7, Try.ntmps7
    go_wp2
    go_ret
    exact ⟨false, rfl, rfl⟩
end Go.Proofs.Ytceafaddhbabhaa.ZT
