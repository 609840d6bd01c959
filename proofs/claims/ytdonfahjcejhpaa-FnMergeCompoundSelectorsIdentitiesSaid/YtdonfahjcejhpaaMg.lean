/- The bounds of n011_210's merge law. -/
import Derived.Test.YtdonfahjcejhpaaMf
namespace Go.Proofs.Ytdonfahjcejhpaa.MG
open Go.RowKit Go.Proofs.Ytdonfahjcejhpaa.TB
set_option linter.unusedVariables false
/-- What the bound on the total length says. -/
def By (n : Nat) (S : Nat → ByteArray) (w : World) (e : Ending) (w' : World) : Prop := ∃ b, e = .returned (.bool b) ∧ (b = true → n ≤ 1048576 ∧ ∀ i, i < n → (S i).size ≤ 1048576) ∧ Below w.heap.size w w'
theorem By.no (n : Nat) (S : Nat → ByteArray) (w : World) (o : Obj) : By n S w (.returned (.bool false)) (w.alloc o) := ⟨false, rfl, by simp, (Below.refl _ _).alloc (Nat.le_refl _) _⟩
set_option maxRecDepth 100000 in
set_option maxHeartbeats 4000000 in
theorem bytes9 (ty x y : Int) (m : Nat) (A : Option Addr) (n c : Nat) (S : Nat → ByteArray) (w : World) (hn : n ≤ maxLen) (hA : Strs w A n S) :
    Calls Try.prog 9 #[.agg #[.int .u8 ty, .int .u8 m, .slice A n c], .int .u8 x, .int .u8 y] w (By n S w) := by
  unfold maxLen at hn
  have HA := Lib.hid hA
  have NO := Lib.hid (By.no n S w (.cells #[.int .u8 ty, .int .u8 m, .slice A n c] 35))
  have YES := Lib.hid (fun (h1 : n ≤ 1048576) (h2 : ∀ i, i < n → (S i).size ≤ 1048576) => show By n S w (.returned (.bool true)) (w.alloc (.cells #[.int .u8 ty, .int .u8 m, .slice A n c] 35)) from ⟨true, rfl, fun _ => ⟨h1, h2⟩, (Below.refl _ _).alloc (Nat.le_refl _) _⟩)
  have CELL := Lib.hid (fun (b o : Nat) (h : A = some ⟨b, o, none⟩) (hb : b < w.heap.size) (i : Nat) (hc : w.cell? ⟨b, o + i, none⟩ = some (.string (S i))) => show (w.alloc (.cells #[.int .u8 ty, .int .u8 m, .slice A n c] 35)).cell? ⟨b, o + i, none⟩ = some (.string (S i)) from (((Below.refl w.heap.size w).alloc (Nat.le_refl _) _).cell hb).trans hc)
  have XC := Lib.hid (show (w.alloc (.cells #[.int .u8 ty, .int .u8 m, .slice A n c] 35)).cell? ⟨w.heap.size, 2, none⟩ = some (.slice A n c) from (Blk.new w 35 #[.int .u8 ty, .int .u8 m, .slice A n c]).cell 2)
  clear hA
  by_cases h0 : 1048576 < n
  · have h0' : (1048576 : Int) < (n : Int) := by omega
    go_enter Try.func9, Try.ntmps9
    go_wp2_with fail
    go_ret
    exact NO.out
  · have h0' : ¬ (1048576 : Int) < (n : Int) := by omega
    go_enter Try.func9, Try.ntmps9
    go_wp2_with fail
    generalize w.alloc (.cells #[.int .u8 ty, .int .u8 m, .slice A n c] 35) = W at *
    go_loop [7, 8] (fun s i => ∃ (k : Nat) (t : Int), k ≤ n ∧ i = .int .i64 k ∧ s = .int .i64 t ∧ 0 ≤ t ∧ t ≤ 1048576 ∧ Hid (∀ i, i < k → (S i).size ≤ 1048576)) (fun _ i => n - (intOf i).toNat)
    case atStart => exact ⟨0, _, Nat.zero_le _, rfl, rfl, by omega, by omega, Lib.hid (fun i h => absurd h (by omega))⟩
    case round =>
      obtain ⟨k, t, hk, rfl, rfl, t0, t1, HK⟩ := hrel
      have x2 := XC.out
      by_cases hlt : k < n
      · obtain ⟨b, o, hAe, hlb, hc⟩ := HA.out (by omega)
        have x3 := CELL.out b o hAe hlb k (hc k hlt)
        subst hAe
        clear hc
        have q1 : (0 : Int) ≤ (k : Int) := by omega
        have q2 : (k : Int) < (n : Int) := by omega
        by_cases hs : (S k).size ≤ 1048576
        · have hs' : ¬ (1048576 : Int) < ((S k).size : Int) := by omega
          have HK2 := Lib.hid (show ∀ i, i < k + 1 → (S i).size ≤ 1048576 from fun i hi => by
            by_cases e : i = k
            · subst e; exact hs
            · exact HK.out i (by omega))
          by_cases ht : t + ((S k).size : Int) ≤ 1048576
          · have ht' : ¬ (1048576 : Int) < t + ((S k).size : Int) := by omega
            go_wp2_with fail
            go_round
            case rel => exact ⟨k + 1, _, by omega, by go_num, rfl, by omega, by omega, HK2⟩
            case measure => simp [intOf]; omega
          · have ht' : (1048576 : Int) < t + ((S k).size : Int) := by omega
            go_wp2_with fail
            go_ret
            exact NO.out
        · have hs' : (1048576 : Int) < ((S k).size : Int) := by omega
          go_wp2_with fail
          go_ret
          exact NO.out
      · obtain rfl : k = n := by omega
        go_wp2_with fail
        go_ret
        exact YES.out (by omega) HK.out
def Sm (w : World) (e : Ending) (w' : World) : Prop := ∃ s : Int, 0 ≤ s ∧ s ≤ 5000000000 ∧ e = .returned (.int .i64 s) ∧ Below w.heap.size w w'
set_option maxRecDepth 100000 in
set_option maxHeartbeats 4000000 in
theorem sum10 (ty : Int) (m : Nat) (A : Option Addr) (n c : Nat) (S : Nat → ByteArray) (w : World) (hn : n ≤ 4096) (hm : m ≤ 255) (hA : Strs w A n S) (hs : ∀ i, i < n → (S i).size ≤ 1048576) :
    Calls Try.prog 10 #[.agg #[.int .u8 ty, .int .u8 m, .slice A n c]] w (Sm w) := by
  have HA := Lib.hid hA
  have HS := Lib.hid hs
  have YES := Lib.hid (fun (s : Int) (h1 : 0 ≤ s) (h2 : s ≤ 5000000000) => show Sm w (.returned (.int .i64 s)) (w.alloc (.cells #[.int .u8 ty, .int .u8 m, .slice A n c] 35)) from ⟨s, h1, h2, rfl, (Below.refl _ _).alloc (Nat.le_refl _) _⟩)
  have CELL := Lib.hid (fun (b o : Nat) (h : A = some ⟨b, o, none⟩) (hb : b < w.heap.size) (i : Nat) (hc : w.cell? ⟨b, o + i, none⟩ = some (.string (S i))) => show (w.alloc (.cells #[.int .u8 ty, .int .u8 m, .slice A n c] 35)).cell? ⟨b, o + i, none⟩ = some (.string (S i)) from (((Below.refl w.heap.size w).alloc (Nat.le_refl _) _).cell hb).trans hc)
  have XC := Lib.hid (show (w.alloc (.cells #[.int .u8 ty, .int .u8 m, .slice A n c] 35)).cell? ⟨w.heap.size, 2, none⟩ = some (.slice A n c) from (Blk.new w 35 #[.int .u8 ty, .int .u8 m, .slice A n c]).cell 2)
  clear hA hs
  have b1 : (0 : Int) ≤ (m : Int) := by omega
  have b2 : (m : Int) ≤ 255 := by omega
  have b3 : (0 : Int) ≤ (n : Int) := by omega
  have b4 : (n : Int) ≤ 4096 := by omega
  go_enter Try.func10, Try.ntmps10
  go_wp2_with fail
  generalize w.alloc (.cells #[.int .u8 ty, .int .u8 m, .slice A n c] 35) = W at *
  go_loop [3, 4] (fun s i => ∃ (k : Nat) (t : Int), k ≤ n ∧ i = .int .i64 k ∧ s = .int .i64 t ∧ 0 ≤ t ∧ t ≤ 16 * 4096 + 8 * 255 + 1048576 * (k : Int)) (fun _ i => n - (intOf i).toNat)
  case atStart => exact ⟨0, _, Nat.zero_le _, rfl, rfl, by omega, by omega⟩
  case round =>
    obtain ⟨k, t, hk, rfl, rfl, t0, t1⟩ := hrel
    have x2 := XC.out
    have k1 : (k : Int) ≤ 4096 := by omega
    by_cases hlt : k < n
    · obtain ⟨b, o, hAe, hlb, hc⟩ := HA.out (by omega)
      have x3 := CELL.out b o hAe hlb k (hc k hlt)
      have hs := HS.out k hlt
      have hs' : ((S k).size : Int) ≤ 1048576 := by omega
      subst hAe
      clear hc
      have q1 : (0 : Int) ≤ (k : Int) := by omega
      have q2 : (k : Int) < (n : Int) := by omega
      go_wp2_with fail
      go_round
      case rel => exact ⟨k + 1, _, by omega, by go_num, rfl, by omega, by omega⟩
      case measure => simp [intOf]; omega
    · obtain rfl : k = n := by omega
      go_wp2_with fail
      go_ret
      exact YES.out _ t0 (by omega)
end Go.Proofs.Ytdonfahjcejhpaa.MG
