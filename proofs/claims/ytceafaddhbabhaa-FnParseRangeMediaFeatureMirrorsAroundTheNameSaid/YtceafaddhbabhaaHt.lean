/- zzToTokens with the place of its block; the bound of the mirror law; small functions. Printed by gen_ht.py. -/
import Derived.Test.YtceafaddhbabhaaHs
import Derived.Test.YtceafaddhbabhaaHa
namespace Go.Proofs.Ytceafaddhbabhaa.ZT
open Go.RowKit Go.Proofs.Ytceafaddhbabhaa.TB
set_option linter.unusedVariables false
set_option maxRecDepth 100000 in
set_option maxHeartbeats 1000000 in
theorem bytes23 (A : Option Addr) (n c : Nat) (K : Nat → Int) (T : Nat → ByteArray) (W L : Nat → Int) (w : World) (r : ZR w A n K T W L) (hn : n ≤ 9223372036854775807) :
    Calls Try.prog 23 #[.slice A n c] w (SomeBool w) := by
  have R := Lib.hid r
  clear r
  by_cases h : n ≤ 1048576
  · go_enter Try.func23, Try.ntmps23
    go_wp2
    go_loop [3, 4] (fun s i => ∃ (k : Nat) (N : Int), k ≤ n ∧ 0 ≤ N ∧ N ≤ 1048576 ∧ i = .int .i64 k ∧ s = .int .i64 N) (fun _ i => n - (intOf i).toNat)
    case atStart => exact ⟨0, (n : Int), Nat.zero_le _, by omega, by omega, rfl, rfl⟩
    case round =>
      obtain ⟨k, N, hk, h0, h1, rfl, rfl⟩ := hrel
      by_cases hlt : k < n
      · obtain ⟨b, o, rfl, hb, hc⟩ := R.out (by omega)
        have x1 := (hc k hlt).2.1
        clear hc
        have q1 : (0 : Int) ≤ (k : Int) := by omega
        have q2 : (k : Int) < (n : Int) := by omega
        go_wp2
        · go_ret
          exact ⟨false, rfl, rfl⟩
        · go_ret
          exact ⟨false, rfl, rfl⟩
        · go_round
          case rel => exact ⟨k + 1, N + (T k).size, by omega, by omega, by omega, by go_num, rfl⟩
          case measure => simp [intOf]; omega
      · go_wp2
        go_ret
        exact ⟨true, rfl, rfl⟩
  · go_enter Try.func23, Try.ntmps23
    go_wp2
    go_ret
    exact ⟨false, rfl, rfl⟩
def ToksQ (n : Nat) (K : Nat → Int) (T : Nat → ByteArray) (W L : Nat → Int) (w : World) (e : Ending) (w' : World) : Prop :=
  ∃ A' c', e = .returned (.slice A' n c') ∧ n ≤ c' ∧ c' ≤ 16384 ∧ ((A' = none ∧ n = 0) ∨ ∃ g, A' = some ⟨g, 0, none⟩ ∧ Tab w' g 34 7 n (tc K T W L) ∧ w.heap.size ≤ g) ∧ Below w.heap.size w w'
set_option maxRecDepth 100000 in
set_option maxHeartbeats 1000000 in
theorem toksq_any (A : Option Addr) (n c : Nat) (K : Nat → Int) (T : Nat → ByteArray) (W L : Nat → Int) (w : World) (r : ZR w A n K T W L) (hA : A = none → n = 0) (hn : n ≤ 16384) :
    Calls Try.prog 11 #[.slice A n c] w (ToksQ n K T W L w) := by
  have eq1 := fun (w : World) (a : Option Addr) (n c n' c' : Nat) => Lib.run_eql_slice_nil (P := Try.prog) w 22 47 a n c n' c' Try.underlying22
  cases A with
  | none =>
    obtain rfl := hA rfl
    go_enter Try.func11, Try.ntmps11
    go_wp2
    go_ret
    exact ⟨none, 0, rfl, Nat.le_refl _, by omega, .inl ⟨rfl, rfl⟩, Below.refl _ _⟩
  | some x =>
    obtain ⟨i0, hi, hz0, hz1, hz2⟩ := info_parts info34
    have hmk := fun (W : World) => run_make (P := Try.prog) W 38 34 i0 _ Try.underlying38 hi hz0 .i64 .i64 n n (by omega) (by omega) (by rw [hz2]; omega) (by omega)
    simp only [hz1, Int.toNat_natCast] at hmk
    have R := Lib.hid r
    clear r hA
    have T0 := Lib.hid (Tab.new w 34 #[.pointer none, .string ByteArray.empty, .int .i32 0, .int .u32 0, .int .u16 0, .int .u8 0, .int .u8 0] n 7 rfl (tpart K T W L 0) (fun i j _ _ => by unfold tpart; simp))
    have B0 := Lib.hid (show Below w.heap.size w (w.alloc (.cells (madeCells #[.pointer none, .string ByteArray.empty, .int .i32 0, .int .u32 0, .int .u16 0, .int .u8 0, .int .u8 0] (n * 7)) 34)) from (Below.refl _ _).alloc (Nat.le_refl _) _)
    go_enter Try.func11, Try.ntmps11
    go_wp2
    generalize w.alloc (.cells (madeCells #[.pointer none, .string ByteArray.empty, .int .i32 0, .int .u32 0, .int .u16 0, .int .u8 0, .int .u8 0] (n * 7)) 34) = W0 at *
    clear hmk
    go_loopw [4] (fun i wr => ∃ k : Nat, k ≤ n ∧ i = .int .i64 k ∧ Hid (Tab wr w.heap.size 34 7 n (tpart K T W L k)) ∧ Hid (Below w.heap.size w wr)) (fun i _ => n - (intOf i).toNat)
    case atStart => exact ⟨0, Nat.zero_le _, rfl, T0, B0⟩
    case round =>
      obtain ⟨k, hk, rfl, TT, BB⟩ := hrel
      clear T0 B0
      by_cases hlt : k < n
      · obtain ⟨b, o, e, hb, hc⟩ := R.out (by omega)
        obtain rfl : x = ⟨b, o, none⟩ := by injection e
        clear e
        obtain ⟨x0, x1, x2, x3⟩ := hc k hlt
        have z0 : wr.cell? ⟨b, o + k * 4, none⟩ = some (.int .u8 (K k)) := by rw [BB.out.cell hb]; exact x0
        have z1 : wr.cell? ⟨b, o + k * 4 + 1, none⟩ = some (.string (T k)) := by rw [BB.out.cell hb]; exact x1
        have z2 : wr.cell? ⟨b, o + k * 4 + 2, none⟩ = some (.int .u8 (W k)) := by rw [BB.out.cell hb]; exact x2
        have z3 : wr.cell? ⟨b, o + k * 4 + 3, none⟩ = some (.int .i32 (L k)) := by rw [BB.out.cell hb]; exact x3
        have ne1 : ¬ w.heap.size = b := by omega
        have ne2 : ¬ b = w.heap.size := by omega
        have q1 : (0 : Int) ≤ (k : Int) := by omega
        have q2 : (k : Int) < (n : Int) := by omega
        have y1 := TT.out.cell hlt (j := 1) (by omega)
        have y2 := TT.out.cell hlt (j := 2) (by omega)
        have y5 := TT.out.cell hlt (j := 5) (by omega)
        have y6 := TT.out.cell hlt (j := 6) (by omega)
        have u1 := TT.out.frozen (k * 7 + 1)
        have u2 := TT.out.frozen (k * 7 + 2)
        have u5 := TT.out.frozen (k * 7 + 5)
        have u6 := TT.out.frozen (k * 7 + 6)
        clear hc x0 x1 x2 x3
        go_wp2
        go_roundw
        case rel =>
          exact ⟨k + 1, by omega, by go_num, Lib.hid (tpart_step TT.out hlt), Lib.hid ((((BB.out.setCell (Nat.le_refl _) _).setCell (Nat.le_refl _) _).setCell (Nat.le_refl _) _).setCell (Nat.le_refl _) _)⟩
        case measure => simp [intOf]; omega
      · obtain rfl : k = n := by omega
        have HT := Lib.hid (TT.out.ext (f' := tc K T W L) (fun i j hi _ => by unfold tpart; rw [if_pos hi]))
        go_wp2
        go_ret
        exact ⟨_, _, rfl, Nat.le_refl _, hn, .inr ⟨w.heap.size, rfl, HT.out, Nat.le_refl _⟩, BB.out⟩

/-- The flipped comparison. -/
def fl (m : Nat) : Nat := if m = 2 then 4 else if m = 3 then 5 else if m = 4 then 2 else if m = 5 then 3 else m
set_option maxRecDepth 100000 in
theorem flip25 (m : Nat) (w : World) (hm : m ≤ 5) : Calls Try.prog 25 #[.int .u8 (m : Nat)] w fun e w' => e = .returned (.int .u8 (fl m : Nat)) ∧ w = w' := by
  rcases (by omega : m = 0 ∨ m = 1 ∨ m = 2 ∨ m = 3 ∨ m = 4 ∨ m = 5) with rfl | rfl | rfl | rfl | rfl | rfl
  all_goals
    go_enter Try.func25, Try.ntmps25
    go_wp2
    go_ret
    exact ⟨rfl, rfl⟩
/-- The kind of a comparison's sign. -/
def ck (m : Nat) : Nat := if m = 1 then 18 else if m = 2 ∨ m = 3 then 21 else if m = 4 ∨ m = 5 then 20 else 0
set_option maxRecDepth 100000 in
theorem kind26 (m : Nat) (w : World) (hm : m ≤ 5) : Calls Try.prog 26 #[.int .u8 (m : Nat)] w fun e w' => e = .returned (.int .u8 (ck m : Nat)) ∧ w = w' := by
  rcases (by omega : m = 0 ∨ m = 1 ∨ m = 2 ∨ m = 3 ∨ m = 4 ∨ m = 5) with rfl | rfl | rfl | rfl | rfl | rfl
  all_goals
    go_enter Try.func26, Try.ntmps26
    go_wp2
    go_ret
    exact ⟨rfl, rfl⟩
set_option maxRecDepth 100000 in
theorem width16 (m : Nat) (w : World) (hm : m ≤ 5) : Calls Try.prog 16 #[.int .u8 (m : Nat)] w fun e w' => e = .returned (.int .i64 (wid m : Nat)) ∧ w = w' := by
  rcases (by omega : m = 0 ∨ m = 1 ∨ m = 2 ∨ m = 3 ∨ m = 4 ∨ m = 5) with rfl | rfl | rfl | rfl | rfl | rfl
  all_goals
    go_enter Try.func16, Try.ntmps16
    go_wp2
    go_ret
    exact ⟨rfl, rfl⟩
/-- The direction of a comparison. -/
def dr (m : Nat) : Int := if m = 2 ∨ m = 3 then -1 else if m = 4 ∨ m = 5 then 1 else 0
set_option maxRecDepth 100000 in
theorem dir35 (m : Nat) (w : World) (hm : m ≤ 5) : Calls Try.prog 35 #[.int .u8 (m : Nat)] w fun e w' => e = .returned (.int .i64 (dr m)) ∧ w = w' := by
  rcases (by omega : m = 0 ∨ m = 1 ∨ m = 2 ∨ m = 3 ∨ m = 4 ∨ m = 5) with rfl | rfl | rfl | rfl | rfl | rfl
  all_goals
    go_enter Try.func35, Try.ntmps35
    go_wp2
    go_ret
    exact ⟨rfl, rfl⟩
end Go.Proofs.Ytceafaddhbabhaa.ZT
