/- Slices of ZTok: zzBytes, zzSize, zzClone, zzToTokens. -/
import Derived.Test.YtceafaddhbabhaaProg
import Derived.Test.YtceafaddhbabhaaTab
import Derived.WalkKit
import Derived.WalkLawsBesides
import Derived.WalkSpells
import Derived.Lib.Hide
import Derived.Outline
import Derived.Laws.Tables
import Derived.Deep.QuietTactic
import Derived.BigQuiet
import Derived.LoopTactic
import Derived.RegionTactic
import Derived.BigRegion
import Derived.Deep.Cut
import Derived.Deep.DeepCutAuto
namespace Go.Proofs.Ytceafaddhbabhaa.ZT
open Go.RowKit Go.Proofs.Ytceafaddhbabhaa.TB
set_option linter.unusedVariables false
/-- A slice of ZTok, as columns. -/
def ZR (w : World) (A : Option Addr) (n : Nat) (K : Nat → Int) (T : Nat → ByteArray) (W L : Nat → Int) : Prop :=
  0 < n → ∃ b o, A = some ⟨b, o, none⟩ ∧ b < w.heap.size ∧ ∀ i, i < n → w.cell? ⟨b, o + i * 4, none⟩ = some (.int .u8 (K i)) ∧ w.cell? ⟨b, o + i * 4 + 1, none⟩ = some (.string (T i)) ∧
    w.cell? ⟨b, o + i * 4 + 2, none⟩ = some (.int .u8 (W i)) ∧ w.cell? ⟨b, o + i * 4 + 3, none⟩ = some (.int .i32 (L i))
theorem ZR.below {w w' : World} {A : Option Addr} {n : Nat} {K : Nat → Int} {T : Nat → ByteArray} {W L : Nat → Int} (h : ZR w A n K T W L) (hb : Below w.heap.size w w') : ZR w' A n K T W L := by
  intro hn
  obtain ⟨b, o, e, hl, hc⟩ := h hn
  refine ⟨b, o, e, Nat.lt_of_lt_of_le hl hb.size, fun i hi => ?_⟩
  obtain ⟨x0, x1, x2, x3⟩ := hc i hi
  exact ⟨by rw [hb.cell hl]; exact x0, by rw [hb.cell hl]; exact x1, by rw [hb.cell hl]; exact x2, by rw [hb.cell hl]; exact x3⟩
theorem add1 (b o i : Nat) : (⟨b, o, none⟩ : Addr).add i = ⟨b, o + i, none⟩ := Addr.add_mid b o i
def SomeInt (P : Int → Prop) (w : World) (e : Ending) (w' : World) : Prop := ∃ n : Int, P n ∧ e = .returned (.int .i64 n) ∧ w = w'
def SomeBool (w : World) (e : Ending) (w' : World) : Prop := ∃ b : Bool, e = .returned (.bool b) ∧ w = w'
set_option maxRecDepth 100000 in
set_option maxHeartbeats 1000000 in
theorem size_big (A : Option Addr) (n c : Nat) (w : World) (h : 16384 < n) (hn : n ≤ 9223372036854775807) :
    Calls Try.prog 8 #[.slice A n c] w fun e w' => e = .returned (.int .i64 2097152) ∧ w = w' := by
  go_enter Try.func8, Try.ntmps8
  go_wp2
  go_ret
  exact ⟨rfl, rfl⟩
set_option maxRecDepth 100000 in
set_option maxHeartbeats 1000000 in
theorem size_any (A : Option Addr) (n c : Nat) (K : Nat → Int) (T : Nat → ByteArray) (W L : Nat → Int) (w : World) (r : ZR w A n K T W L) (h : n ≤ 16384) :
    Calls Try.prog 8 #[.slice A n c] w (SomeInt (fun N => 0 ≤ N ∧ N ≤ 2097152) w) := by
  have R := Lib.hid r
  clear r
  go_enter Try.func8, Try.ntmps8
  go_wp2
  go_loop [3, 4] (fun s i => ∃ (k : Nat) (N : Int), k ≤ n ∧ 0 ≤ N ∧ N ≤ 1048576 ∧ i = .int .i64 k ∧ s = .int .i64 N) (fun _ i => n - (intOf i).toNat)
  case atStart => exact ⟨0, (n : Int) * 32, Nat.zero_le _, by omega, by omega, rfl, rfl⟩
  case round =>
    obtain ⟨k, N, hk, h0, h1, rfl, rfl⟩ := hrel
    by_cases hlt : k < n
    · obtain ⟨b, o, rfl, hb, hc⟩ := R.out (by omega)
      have x1 := (hc k hlt).2.1
      have hts := (T k).size
      clear hc
      have q1 : (0 : Int) ≤ (k : Int) := by omega
      have q2 : (k : Int) < (n : Int) := by omega
      go_wp2
      · go_ret
        exact ⟨2097152, ⟨by omega, by omega⟩, rfl, rfl⟩
      · go_ret
        exact ⟨2097152, ⟨by omega, by omega⟩, rfl, rfl⟩
      · go_round
        case rel => exact ⟨k + 1, N + (T k).size, by omega, by omega, by omega, by go_num, rfl⟩
        case measure => simp [intOf]; omega
    · go_wp2
      go_ret
      exact ⟨N, ⟨h0, by omega⟩, rfl, rfl⟩
theorem info47 : (Try.prog.info? 47).map (fun i => (i.zero, i.size, i.bytes)) = some (some (.agg #[.int .u8 0, .string ByteArray.empty, .int .u8 0, .int .i32 0]), 4, 32) := by kernel_rfl
theorem info34 : (Try.prog.info? 34).map (fun i => (i.zero, i.size, i.bytes)) = some (some (.agg #[.pointer none, .string ByteArray.empty, .int .i32 0, .int .u32 0, .int .u16 0, .int .u8 0, .int .u8 0]), 7, 40) := by kernel_rfl
set_option maxRecDepth 100000 in
set_option maxHeartbeats 1000000 in
theorem bytes13 (A : Option Addr) (n c : Nat) (K : Nat → Int) (T : Nat → ByteArray) (W L : Nat → Int) (w : World) (r : ZR w A n K T W L) (hn : n ≤ 9223372036854775807) :
    Calls Try.prog 13 #[.slice A n c] w (SomeBool w) := by
  have R := Lib.hid r
  clear r
  by_cases h : n ≤ 1048576
  · go_enter Try.func13, Try.ntmps13
    go_wp2
    go_loop [3, 4] (fun s i => ∃ (k : Nat) (N : Int), k ≤ n ∧ 0 ≤ N ∧ N ≤ 1048576 ∧ i = .int .i64 k ∧ s = .int .i64 N) (fun _ i => n - (intOf i).toNat)
    case atStart => exact ⟨0, (n : Int), Nat.zero_le _, by omega, by omega, rfl, rfl⟩
    case round =>
      obtain ⟨k, N, hk, h0, h1, rfl, rfl⟩ := hrel
      by_cases hlt : k < n
      · obtain ⟨b, o, rfl, hb, hc⟩ := R.out (by omega)
        have x1 := (hc k hlt).2.1
        clear hc
        have q1 : (0 : Int) ≤ (k : Int) := by omega
        have q2 : (k : Int) < (n : Int) := by omega
        go_wp2
        · go_ret
          exact ⟨false, rfl, rfl⟩
        · go_ret
          exact ⟨false, rfl, rfl⟩
        · go_round
          case rel => exact ⟨k + 1, N + (T k).size, by omega, by omega, by omega, by go_num, rfl⟩
          case measure => simp [intOf]; omega
      · go_wp2
        go_ret
        exact ⟨true, rfl, rfl⟩
  · go_enter Try.func13, Try.ntmps13
    go_wp2
    go_ret
    exact ⟨false, rfl, rfl⟩

def zc (K : Nat → Int) (T : Nat → ByteArray) (W L : Nat → Int) : Nat → Nat → Value := fun i j => #[Value.int .u8 (K i), .string (T i), .int .u8 (W i), .int .i32 (L i)][j]!
def zpart (K : Nat → Int) (T : Nat → ByteArray) (W L : Nat → Int) (k : Nat) : Nat → Nat → Value := fun i j => if i < k then zc K T W L i j else #[Value.int .u8 0, .string ByteArray.empty, .int .u8 0, .int .i32 0][j]!
theorem four {j : Nat} (h : j < 4) : j = 0 ∨ j = 1 ∨ j = 2 ∨ j = 3 := by omega
theorem zpart_step {w : World} {g n k : Nat} {K : Nat → Int} {T : Nat → ByteArray} {W L : Nat → Int} (h : Tab w g 47 4 n (zpart K T W L k)) (hk : k < n) :
    Tab ((((w.setCell ⟨g, k * 4, none⟩ (.int .u8 (K k))).setCell ⟨g, k * 4 + 1, none⟩ (.string (T k))).setCell ⟨g, k * 4 + 2, none⟩ (.int .u8 (W k))).setCell ⟨g, k * 4 + 3, none⟩ (.int .i32 (L k))) g 47 4 n (zpart K T W L (k + 1)) := by
  refine ((((h.set hk (j := 0) (by omega) (.int .u8 (K k))).set hk (j := 1) (by omega) (.string (T k))).set hk (j := 2) (by omega) (.int .u8 (W k))).set hk (j := 3) (by omega) (.int .i32 (L k))).ext fun i j hi hj => ?_
  by_cases e : i = k
  · subst e
    rcases four hj with rfl | rfl | rfl | rfl <;> simp [upd, zpart, zc]
  · have e1 : (i < k + 1) = (i < k) := by simp; omega
    simp [upd, zpart, e, e1]
theorem ZR.of_tab {w : World} {g n : Nat} {K : Nat → Int} {T : Nat → ByteArray} {W L : Nat → Int} (h : Tab w g 47 4 n (zc K T W L)) : ZR w (some ⟨g, 0, none⟩) n K T W L := by
  intro hn
  refine ⟨g, 0, rfl, h.lt, fun i hi => ⟨?_, ?_, ?_, ?_⟩⟩
  · rw [Nat.zero_add]; exact h.cell hi (j := 0) (by omega)
  · rw [Nat.zero_add]; exact h.cell hi (j := 1) (by omega)
  · rw [Nat.zero_add]; exact h.cell hi (j := 2) (by omega)
  · rw [Nat.zero_add]; exact h.cell hi (j := 3) (by omega)
def CloneP (n : Nat) (K : Nat → Int) (T : Nat → ByteArray) (W L : Nat → Int) (w : World) (e : Ending) (w' : World) : Prop :=
  ∃ A' c', e = .returned (.slice A' n c') ∧ n ≤ c' ∧ ZR w' A' n K T W L ∧ (A' = none → n = 0) ∧ Below w.heap.size w w'
set_option maxRecDepth 100000 in
set_option maxHeartbeats 1000000 in
theorem clone_any (A : Option Addr) (n c : Nat) (K : Nat → Int) (T : Nat → ByteArray) (W L : Nat → Int) (w : World) (r : ZR w A n K T W L) (hA : A = none → n = 0) (hn : n ≤ 16384) :
    Calls Try.prog 9 #[.slice A n c] w (CloneP n K T W L w) := by
  have eq1 := fun (w : World) (a : Option Addr) (n c n' c' : Nat) => Lib.run_eql_slice_nil (P := Try.prog) w 22 47 a n c n' c' Try.underlying22
  cases A with
  | none =>
    obtain rfl := hA rfl
    go_enter Try.func9, Try.ntmps9
    go_wp2
    go_ret
    exact ⟨none, 0, rfl, Nat.le_refl _, fun h => absurd h (by omega), fun _ => rfl, Below.refl _ _⟩
  | some x =>
    obtain ⟨i0, hi, hz0, hz1, hz2⟩ := info_parts info47
    have hmk := fun (W : World) => run_make (P := Try.prog) W 22 47 i0 _ Try.underlying22 hi hz0 .i64 .i64 n n (by omega) (by omega) (by rw [hz2]; omega) (by omega)
    simp only [hz1, Int.toNat_natCast] at hmk
    have R := Lib.hid r
    clear r hA
    have T0 := Lib.hid (Tab.new w 47 #[.int .u8 0, .string ByteArray.empty, .int .u8 0, .int .i32 0] n 4 rfl (zpart K T W L 0) (fun i j _ _ => by unfold zpart; simp))
    have B0 := Lib.hid (show Below w.heap.size w (w.alloc (.cells (madeCells #[.int .u8 0, .string ByteArray.empty, .int .u8 0, .int .i32 0] (n * 4)) 47)) from (Below.refl _ _).alloc (Nat.le_refl _) _)
    go_enter Try.func9, Try.ntmps9
    go_wp2
    generalize w.alloc (.cells (madeCells #[.int .u8 0, .string ByteArray.empty, .int .u8 0, .int .i32 0] (n * 4)) 47) = W0 at *
    clear hmk
    go_loopw [4] (fun i wr => ∃ k : Nat, k ≤ n ∧ i = .int .i64 k ∧ Hid (Tab wr w.heap.size 47 4 n (zpart K T W L k)) ∧ Hid (Below w.heap.size w wr)) (fun i _ => n - (intOf i).toNat)
    case atStart => exact ⟨0, Nat.zero_le _, rfl, T0, B0⟩
    case round =>
      obtain ⟨k, hk, rfl, TT, BB⟩ := hrel
      clear T0 B0
      by_cases hlt : k < n
      · obtain ⟨b, o, e, hb, hc⟩ := R.out (by omega)
        obtain rfl : x = ⟨b, o, none⟩ := by injection e
        clear e
        obtain ⟨x0, x1, x2, x3⟩ := hc k hlt
        have z0 : wr.cell? ⟨b, o + k * 4, none⟩ = some (.int .u8 (K k)) := by rw [BB.out.cell hb]; exact x0
        have z1 : wr.cell? ⟨b, o + k * 4 + 1, none⟩ = some (.string (T k)) := by rw [BB.out.cell hb]; exact x1
        have z2 : wr.cell? ⟨b, o + k * 4 + 2, none⟩ = some (.int .u8 (W k)) := by rw [BB.out.cell hb]; exact x2
        have z3 : wr.cell? ⟨b, o + k * 4 + 3, none⟩ = some (.int .i32 (L k)) := by rw [BB.out.cell hb]; exact x3
        have q1 : (0 : Int) ≤ (k : Int) := by omega
        have q2 : (k : Int) < (n : Int) := by omega
        have y0 := TT.out.cell hlt (j := 0) (by omega)
        have y1 := TT.out.cell hlt (j := 1) (by omega)
        have y2 := TT.out.cell hlt (j := 2) (by omega)
        have y3 := TT.out.cell hlt (j := 3) (by omega)
        have u0 := TT.out.frozen (k * 4 + 0)
        have u1 := TT.out.frozen (k * 4 + 1)
        have u2 := TT.out.frozen (k * 4 + 2)
        have u3 := TT.out.frozen (k * 4 + 3)
        rw [Nat.add_zero] at y0 u0
        clear hc x0 x1 x2 x3
        go_wp2
        go_roundw
        case rel =>
          exact ⟨k + 1, by omega, by go_num, Lib.hid (zpart_step TT.out hlt), Lib.hid ((((BB.out.setCell (Nat.le_refl _) _).setCell (Nat.le_refl _) _).setCell (Nat.le_refl _) _).setCell (Nat.le_refl _) _)⟩
        case measure => simp [intOf]; omega
      · obtain rfl : k = n := by omega
        have HT := Lib.hid (TT.out.ext (f' := zc K T W L) (fun i j hi _ => by unfold zpart; rw [if_pos hi]))
        go_wp2
        go_ret
        exact ⟨_, _, rfl, Nat.le_refl _, ZR.of_tab HT.out, (fun h => by cases h), BB.out⟩

/-- A token's cells. -/
def tc (K : Nat → Int) (T : Nat → ByteArray) (W L : Nat → Int) : Nat → Nat → Value := fun i j => #[Value.pointer none, .string (T i), .int .i32 (L i), .int .u32 0, .int .u16 0, .int .u8 (K i), .int .u8 (W i)][j]!
def tpart (K : Nat → Int) (T : Nat → ByteArray) (W L : Nat → Int) (k : Nat) : Nat → Nat → Value := fun i j => if i < k then tc K T W L i j else #[Value.pointer none, .string ByteArray.empty, .int .i32 0, .int .u32 0, .int .u16 0, .int .u8 0, .int .u8 0][j]!
theorem seven {j : Nat} (h : j < 7) : j = 0 ∨ j = 1 ∨ j = 2 ∨ j = 3 ∨ j = 4 ∨ j = 5 ∨ j = 6 := by omega
theorem tpart_step {w : World} {g n k : Nat} {K : Nat → Int} {T : Nat → ByteArray} {W L : Nat → Int} (h : Tab w g 34 7 n (tpart K T W L k)) (hk : k < n) :
    Tab ((((w.setCell ⟨g, k * 7 + 5, none⟩ (.int .u8 (K k))).setCell ⟨g, k * 7 + 1, none⟩ (.string (T k))).setCell ⟨g, k * 7 + 6, none⟩ (.int .u8 (W k))).setCell ⟨g, k * 7 + 2, none⟩ (.int .i32 (L k))) g 34 7 n (tpart K T W L (k + 1)) := by
  refine ((((h.set hk (j := 5) (by omega) (.int .u8 (K k))).set hk (j := 1) (by omega) (.string (T k))).set hk (j := 6) (by omega) (.int .u8 (W k))).set hk (j := 2) (by omega) (.int .i32 (L k))).ext fun i j hi hj => ?_
  by_cases e : i = k
  · subst e
    rcases seven hj with rfl | rfl | rfl | rfl | rfl | rfl | rfl <;> simp [upd, tpart, tc]
  · have e1 : (i < k + 1) = (i < k) := by simp; omega
    simp [upd, tpart, e, e1]
/-- A slice of tokens. -/
def TR (w : World) (A : Option Addr) (n : Nat) (f : Nat → Nat → Value) : Prop :=
  0 < n → ∃ b o, A = some ⟨b, o, none⟩ ∧ b < w.heap.size ∧ ∀ i j, i < n → j < 7 → w.cell? ⟨b, o + i * 7 + j, none⟩ = some (f i j)
theorem TR.below {w w' : World} {A : Option Addr} {n : Nat} {f : Nat → Nat → Value} (h : TR w A n f) (hb : Below w.heap.size w w') : TR w' A n f := by
  intro hn
  obtain ⟨b, o, e, hl, hc⟩ := h hn
  exact ⟨b, o, e, Nat.lt_of_lt_of_le hl hb.size, fun i j hi hj => by rw [hb.cell hl]; exact hc i j hi hj⟩
theorem TR.of_tab {w : World} {g n : Nat} {f : Nat → Nat → Value} (h : Tab w g 34 7 n f) : TR w (some ⟨g, 0, none⟩) n f := by
  intro hn
  refine ⟨g, 0, rfl, h.lt, fun i j hi hj => ?_⟩
  rw [Nat.zero_add]; exact h.cell hi hj
def ToksP (n : Nat) (K : Nat → Int) (T : Nat → ByteArray) (W L : Nat → Int) (w : World) (e : Ending) (w' : World) : Prop :=
  ∃ A' c', e = .returned (.slice A' n c') ∧ n ≤ c' ∧ c' ≤ 16384 ∧ TR w' A' n (tc K T W L) ∧ (A' = none → n = 0) ∧ Below w.heap.size w w'
set_option maxRecDepth 100000 in
set_option maxHeartbeats 1000000 in
theorem toks_any (A : Option Addr) (n c : Nat) (K : Nat → Int) (T : Nat → ByteArray) (W L : Nat → Int) (w : World) (r : ZR w A n K T W L) (hA : A = none → n = 0) (hn : n ≤ 16384) :
    Calls Try.prog 11 #[.slice A n c] w (ToksP n K T W L w) := by
  have eq1 := fun (w : World) (a : Option Addr) (n c n' c' : Nat) => Lib.run_eql_slice_nil (P := Try.prog) w 22 47 a n c n' c' Try.underlying22
  cases A with
  | none =>
    obtain rfl := hA rfl
    go_enter Try.func11, Try.ntmps11
    go_wp2
    go_ret
    exact ⟨none, 0, rfl, Nat.le_refl _, by omega, fun h => absurd h (by omega), fun _ => rfl, Below.refl _ _⟩
  | some x =>
    obtain ⟨i0, hi, hz0, hz1, hz2⟩ := info_parts info34
    have hmk := fun (W : World) => run_make (P := Try.prog) W 38 34 i0 _ Try.underlying38 hi hz0 .i64 .i64 n n (by omega) (by omega) (by rw [hz2]; omega) (by omega)
    simp only [hz1, Int.toNat_natCast] at hmk
    have R := Lib.hid r
    clear r hA
    have T0 := Lib.hid (Tab.new w 34 #[.pointer none, .string ByteArray.empty, .int .i32 0, .int .u32 0, .int .u16 0, .int .u8 0, .int .u8 0] n 7 rfl (tpart K T W L 0) (fun i j _ _ => by unfold tpart; simp))
    have B0 := Lib.hid (show Below w.heap.size w (w.alloc (.cells (madeCells #[.pointer none, .string ByteArray.empty, .int .i32 0, .int .u32 0, .int .u16 0, .int .u8 0, .int .u8 0] (n * 7)) 34)) from (Below.refl _ _).alloc (Nat.le_refl _) _)
    go_enter Try.func11, Try.ntmps11
    go_wp2
    generalize w.alloc (.cells (madeCells #[.pointer none, .string ByteArray.empty, .int .i32 0, .int .u32 0, .int .u16 0, .int .u8 0, .int .u8 0] (n * 7)) 34) = W0 at *
    clear hmk
    go_loopw [4] (fun i wr => ∃ k : Nat, k ≤ n ∧ i = .int .i64 k ∧ Hid (Tab wr w.heap.size 34 7 n (tpart K T W L k)) ∧ Hid (Below w.heap.size w wr)) (fun i _ => n - (intOf i).toNat)
    case atStart => exact ⟨0, Nat.zero_le _, rfl, T0, B0⟩
    case round =>
      obtain ⟨k, hk, rfl, TT, BB⟩ := hrel
      clear T0 B0
      by_cases hlt : k < n
      · obtain ⟨b, o, e, hb, hc⟩ := R.out (by omega)
        obtain rfl : x = ⟨b, o, none⟩ := by injection e
        clear e
        obtain ⟨x0, x1, x2, x3⟩ := hc k hlt
        have z0 : wr.cell? ⟨b, o + k * 4, none⟩ = some (.int .u8 (K k)) := by rw [BB.out.cell hb]; exact x0
        have z1 : wr.cell? ⟨b, o + k * 4 + 1, none⟩ = some (.string (T k)) := by rw [BB.out.cell hb]; exact x1
        have z2 : wr.cell? ⟨b, o + k * 4 + 2, none⟩ = some (.int .u8 (W k)) := by rw [BB.out.cell hb]; exact x2
        have z3 : wr.cell? ⟨b, o + k * 4 + 3, none⟩ = some (.int .i32 (L k)) := by rw [BB.out.cell hb]; exact x3
        have ne1 : ¬ w.heap.size = b := by omega
        have ne2 : ¬ b = w.heap.size := by omega
        have q1 : (0 : Int) ≤ (k : Int) := by omega
        have q2 : (k : Int) < (n : Int) := by omega
        have y1 := TT.out.cell hlt (j := 1) (by omega)
        have y2 := TT.out.cell hlt (j := 2) (by omega)
        have y5 := TT.out.cell hlt (j := 5) (by omega)
        have y6 := TT.out.cell hlt (j := 6) (by omega)
        have u1 := TT.out.frozen (k * 7 + 1)
        have u2 := TT.out.frozen (k * 7 + 2)
        have u5 := TT.out.frozen (k * 7 + 5)
        have u6 := TT.out.frozen (k * 7 + 6)
        clear hc x0 x1 x2 x3
        go_wp2
        go_roundw
        case rel =>
          exact ⟨k + 1, by omega, by go_num, Lib.hid (tpart_step TT.out hlt), Lib.hid ((((BB.out.setCell (Nat.le_refl _) _).setCell (Nat.le_refl _) _).setCell (Nat.le_refl _) _).setCell (Nat.le_refl _) _)⟩
        case measure => simp [intOf]; omega
      · obtain rfl : k = n := by omega
        have HT := Lib.hid (TT.out.ext (f' := tc K T W L) (fun i j hi _ => by unfold tpart; rw [if_pos hi]))
        go_wp2
        go_ret
        exact ⟨_, _, rfl, Nat.le_refl _, hn, TR.of_tab HT.out, (fun h => by cases h), BB.out⟩
end Go.Proofs.Ytceafaddhbabhaa.ZT
