/- Slices of strings and of tokens in n011_189; the readers of media queries. -/
import Derived.Test.YtpbdfdmocaojgaaMa
namespace Go.Proofs.Ytpbdfdmocaojgaa.MA
open Go.RowKit Go.Proofs.Ytpbdfdmocaojgaa.TB
set_option linter.unusedVariables false
theorem below_drewN {B : Nat} {a w : World} (h : Below B a w) (n : Nat) : Below B a (w.drewN n) := ⟨h.os, h.tape, h.output, h.size, h.block⟩
/-- A slice of strings. -/
def SR (w : World) (A : Option Addr) (n : Nat) (T : Nat → ByteArray) : Prop :=
  0 < n → ∃ b o, A = some ⟨b, o, none⟩ ∧ b < w.heap.size ∧ ∀ i, i < n → w.cell? ⟨b, o + i, none⟩ = some (.string (T i))
theorem SR.below {w w' : World} {A : Option Addr} {n : Nat} {T : Nat → ByteArray} (h : SR w A n T) (hb : Below w.heap.size w w') : SR w' A n T := by
  intro hn
  obtain ⟨b, o, e, hl, hc⟩ := h hn
  exact ⟨b, o, e, Nat.lt_of_lt_of_le hl hb.size, fun i hi => by rw [hb.cell hl]; exact hc i hi⟩
def tc (K : Nat → Int) (T : Nat → ByteArray) (W : Nat → Int) : Nat → Nat → Value := fun i j => #[Value.pointer none, .string (T i), .int .i32 0, .int .u32 0, .int .u16 0, .int .u8 (K i), .int .u8 (W i)][j]!
def tz : Nat → Nat → Value := fun i j => #[Value.pointer none, .string ByteArray.empty, .int .i32 0, .int .u32 0, .int .u16 0, .int .u8 0, .int .u8 0][j]!
def tpart (K : Nat → Int) (T : Nat → ByteArray) (W : Nat → Int) (k : Nat) : Nat → Nat → Value := fun i j => if i < k then tc K T W i j else #[Value.pointer none, .string ByteArray.empty, .int .i32 0, .int .u32 0, .int .u16 0, .int .u8 0, .int .u8 0][j]!
theorem seven {j : Nat} (h : j < 7) : j = 0 ∨ j = 1 ∨ j = 2 ∨ j = 3 ∨ j = 4 ∨ j = 5 ∨ j = 6 := by omega
theorem tpart_step {w : World} {g n k : Nat} {K : Nat → Int} {T : Nat → ByteArray} {W : Nat → Int} (h : Tab w g 53 7 n (tpart K T W k)) (hk : k < n) :
    Tab (((((((w.setCell ⟨g, k * 7, none⟩ (.pointer none)).setCell ⟨g, k * 7 + 1, none⟩ (.string (T k))).setCell ⟨g, k * 7 + 2, none⟩ (.int .i32 0)).setCell ⟨g, k * 7 + 3, none⟩ (.int .u32 0)).setCell ⟨g, k * 7 + 4, none⟩ (.int .u16 0)).setCell ⟨g, k * 7 + 5, none⟩ (.int .u8 (K k))).setCell ⟨g, k * 7 + 6, none⟩ (.int .u8 (W k))) g 53 7 n (tpart K T W (k + 1)) := by
  refine (((((((h.set hk (j := 0) (by omega) (.pointer none)).set hk (j := 1) (by omega) (.string (T k))).set hk (j := 2) (by omega) (.int .i32 0)).set hk (j := 3) (by omega) (.int .u32 0)).set hk (j := 4) (by omega) (.int .u16 0)).set hk (j := 5) (by omega) (.int .u8 (K k))).set hk (j := 6) (by omega) (.int .u8 (W k))).ext fun i j hi hj => ?_
  by_cases e : i = k
  · subst e
    rcases seven hj with rfl | rfl | rfl | rfl | rfl | rfl | rfl <;> simp [upd, tpart, tc]
  · have e1 : (i < k + 1) = (i < k) := by simp; omega
    simp [upd, tpart, e, e1]
/-- A slice of tokens. -/
def TR (w : World) (A : Option Addr) (n : Nat) (f : Nat → Nat → Value) : Prop :=
  0 < n → ∃ b o, A = some ⟨b, o, none⟩ ∧ b < w.heap.size ∧ ∀ i j, i < n → j < 7 → w.cell? ⟨b, o + i * 7 + j, none⟩ = some (f i j)
theorem TR.below {w w' : World} {A : Option Addr} {n : Nat} {f : Nat → Nat → Value} (h : TR w A n f) (hb : Below w.heap.size w w') : TR w' A n f := by
  intro hn
  obtain ⟨b, o, e, hl, hc⟩ := h hn
  exact ⟨b, o, e, Nat.lt_of_lt_of_le hl hb.size, fun i j hi hj => by rw [hb.cell hl]; exact hc i j hi hj⟩
theorem TR.of_tab {w : World} {g n : Nat} {f : Nat → Nat → Value} (h : Tab w g 53 7 n f) : TR w (some ⟨g, 0, none⟩) n f := by
  intro hn
  refine ⟨g, 0, rfl, h.lt, fun i j hi hj => ?_⟩
  rw [Nat.zero_add]; exact h.cell hi hj
theorem info53 : (Try.prog.info? 53).map (fun i => (i.zero, i.size, i.bytes)) = some (some (.agg #[.pointer none, .string ByteArray.empty, .int .i32 0, .int .u32 0, .int .u16 0, .int .u8 0, .int .u8 0]), 7, 40) := by kernel_rfl
theorem bld53 (s : ByteArray) (k : Int) (w : World) : (Instr.build 53 #[(5, .int .u8 k), (1, .string s)]).run Try.prog w = .ok (.agg #[.pointer none, .string s, .int .i32 0, .int .u32 0, .int .u16 0, .int .u8 k, .int .u8 0]) w := run_build w 53 _ _ (by kernel_rfl)
def BytesP (n : Nat) (T : Nat → ByteArray) (w : World) (e : Ending) (w' : World) : Prop := ∃ b : Bool, (b = true → n ≤ 1048576 ∧ ∀ i, i < n → (T i).size ≤ 1048576) ∧ e = .returned (.bool b) ∧ w = w'
set_option maxRecDepth 100000 in
set_option maxHeartbeats 1000000 in
theorem bytes5 (st : Int) (nm : ByteArray) (A : Option Addr) (n c : Nat) (T : Nat → ByteArray) (w : World) (r : SR w A n T) (hn : n ≤ maxLen) (hs : nm.size ≤ maxLen) (hT : ∀ i, i < n → (T i).size ≤ maxLen) :
    Calls Try.prog 5 #[.int .i32 st, .string nm, .slice A n c] w (BytesP n T w) := by
  unfold maxLen at hn hs hT
  have R := Lib.hid r
  have HT := Lib.hid hT
  clear r hT
  by_cases h1 : nm.size ≤ 1048576
  · by_cases h2 : n ≤ 1048576
    · by_cases h3 : nm.size + n ≤ 1048576
      · go_enter Try.func5, Try.ntmps5
        go_wp2
        go_loop [7, 8] (fun s i => ∃ (k : Nat) (N : Int), k ≤ n ∧ 0 ≤ N ∧ N ≤ 1048576 ∧ i = .int .i64 k ∧ s = .int .i64 N ∧ Hid (∀ i, i < k → (T i).size ≤ 1048576)) (fun _ i => n - (intOf i).toNat)
        case atStart => exact ⟨0, (nm.size : Int) + n, Nat.zero_le _, by omega, by omega, rfl, rfl, Lib.hid (fun i hi => absurd hi (by omega))⟩
        case round =>
          obtain ⟨k, N, hk, h0, h1, rfl, rfl, HA⟩ := hrel
          by_cases hlt : k < n
          · obtain ⟨b, o, rfl, hb, hc⟩ := R.out (by omega)
            have x1 := hc k hlt
            have hts := HT.out k hlt
            clear hc
            have q1 : (0 : Int) ≤ (k : Int) := by omega
            have q2 : (k : Int) < (n : Int) := by omega
            by_cases h4 : (T k).size ≤ 1048576
            · have HA2 : Hid (∀ i, i < k + 1 → (T i).size ≤ 1048576) := by
                apply Lib.hid
                intro i hi
                by_cases e : i = k
                · subst e; exact h4
                · exact HA.out i (by omega)
              by_cases h5 : N + (T k).size ≤ 1048576
              · go_wp2
                go_round
                case rel => exact ⟨k + 1, N + (T k).size, by omega, by omega, by omega, by go_num, rfl, HA2⟩
                case measure => simp [intOf]; omega
              · go_wp2
                go_ret
                exact ⟨false, (fun h => by cases h), rfl, rfl⟩
            · go_wp2
              go_ret
              exact ⟨false, (fun h => by cases h), rfl, rfl⟩
          · obtain rfl : k = n := by omega
            go_wp2
            go_ret
            exact ⟨true, fun _ => ⟨h2, HA.out⟩, rfl, rfl⟩
      · go_enter Try.func5, Try.ntmps5
        go_wp2
        go_ret
        exact ⟨false, (fun h => by cases h), rfl, rfl⟩
    · go_enter Try.func5, Try.ntmps5
      go_wp2
      go_ret
      exact ⟨false, (fun h => by cases h), rfl, rfl⟩
  · go_enter Try.func5, Try.ntmps5
    go_wp2
    go_ret
    exact ⟨false, (fun h => by cases h), rfl, rfl⟩
def SomeInt (P : Int → Prop) (w : World) (e : Ending) (w' : World) : Prop := ∃ n : Int, P n ∧ e = .returned (.int .i64 n) ∧ w = w'
set_option maxRecDepth 100000 in
set_option maxHeartbeats 1000000 in
theorem textBytes (A : Option Addr) (n c : Nat) (T : Nat → ByteArray) (w : World) (r : SR w A n T) (hn : n ≤ 131072) (hT : ∀ i, i < n → (T i).size ≤ 1048576) :
    Calls Try.prog 6 #[.slice A n c] w (SomeInt (fun N => 0 ≤ N ∧ N ≤ 4194304) w) := by
  have R := Lib.hid r
  have HT := Lib.hid hT
  clear r hT
  go_enter Try.func6, Try.ntmps6
  go_wp2
  go_loop [3, 4] (fun s i => ∃ (k : Nat) (N : Int), k ≤ n ∧ 0 ≤ N ∧ N ≤ 2097152 ∧ i = .int .i64 k ∧ s = .int .i64 N) (fun _ i => n - (intOf i).toNat)
  case atStart => exact ⟨0, 8 * (n : Int), Nat.zero_le _, by omega, by omega, rfl, rfl⟩
  case round =>
    obtain ⟨k, N, hk, h0, h1, rfl, rfl⟩ := hrel
    by_cases hlt : k < n
    · obtain ⟨b, o, rfl, hb, hc⟩ := R.out (by omega)
      have x1 := hc k hlt
      have hts := HT.out k hlt
      clear hc
      have q1 : (0 : Int) ≤ (k : Int) := by omega
      have q2 : (k : Int) < (n : Int) := by omega
      by_cases h5 : N + (T k).size ≤ 2097152
      · go_wp2
        go_round
        case rel => exact ⟨k + 1, N + (T k).size, by omega, by omega, by omega, by go_num, rfl⟩
        case measure => simp [intOf]; omega
      · go_wp2
        go_ret
        exact ⟨N + (T k).size, ⟨by omega, by omega⟩, rfl, rfl⟩
    · go_wp2
      go_ret
      exact ⟨N, ⟨h0, by omega⟩, rfl, rfl⟩
def ToksP (n : Nat) (f : Nat → Nat → Value) (w : World) (e : Ending) (w' : World) : Prop :=
  ∃ A' c', e = .returned (.slice A' n c') ∧ TR w' A' n f ∧ (A' = none → n = 0) ∧ Below w.heap.size w w'
set_option maxRecDepth 100000 in
set_option maxHeartbeats 1000000 in
theorem idents (A : Option Addr) (n c : Nat) (T : Nat → ByteArray) (w : World) (r : SR w A n T) (hA : A = none → n = 0) (hn : n ≤ 131072) :
    Calls Try.prog 7 #[.slice A n c] w (ToksP n (tc (fun _ => 29) T (fun _ => 0)) w) := by
  have eq1 := fun (w : World) (a : Option Addr) (n c n' c' : Nat) => Lib.run_eql_slice_nil (P := Try.prog) w 22 9 a n c n' c' Try.underlying22
  cases A with
  | none =>
    obtain rfl := hA rfl
    go_enter Try.func7, Try.ntmps7
    go_wp2
    go_ret
    exact ⟨none, 0, rfl, fun h => absurd h (by omega), fun _ => rfl, Below.refl _ _⟩
  | some x =>
    obtain ⟨i0, hi, hz0, hz1, hz2⟩ := info_parts info53
    have hmk := fun (W : World) => run_make (P := Try.prog) W 25 53 i0 _ Try.underlying25 hi hz0 .i64 .i64 n n (by omega) (by omega) (by rw [hz2]; omega) (by omega)
    simp only [hz1, Int.toNat_natCast] at hmk
    have R := Lib.hid r
    clear r hA
    have T0 := Lib.hid (Tab.new w 53 #[.pointer none, .string ByteArray.empty, .int .i32 0, .int .u32 0, .int .u16 0, .int .u8 0, .int .u8 0] n 7 rfl (tpart (fun _ => 29) T (fun _ => 0) 0) (fun i j _ _ => by unfold tpart; simp))
    have B0 := Lib.hid (show Below w.heap.size w (w.alloc (.cells (madeCells #[.pointer none, .string ByteArray.empty, .int .i32 0, .int .u32 0, .int .u16 0, .int .u8 0, .int .u8 0] (n * 7)) 53)) from (Below.refl _ _).alloc (Nat.le_refl _) _)
    go_enter Try.func7, Try.ntmps7
    go_wp2
    generalize w.alloc (.cells (madeCells #[.pointer none, .string ByteArray.empty, .int .i32 0, .int .u32 0, .int .u16 0, .int .u8 0, .int .u8 0] (n * 7)) 53) = W0 at *
    clear hmk
    go_loopw [4] (fun i wr => ∃ k : Nat, k ≤ n ∧ i = .int .i64 k ∧ Hid (Tab wr w.heap.size 53 7 n (tpart (fun _ => 29) T (fun _ => 0) k)) ∧ Hid (Below w.heap.size w wr)) (fun i _ => n - (intOf i).toNat)
    case atStart => exact ⟨0, Nat.zero_le _, rfl, T0, B0⟩
    case round =>
      obtain ⟨k, hk, rfl, TT, BB⟩ := hrel
      clear T0 B0
      by_cases hlt : k < n
      · obtain ⟨b, o, e, hb, hc⟩ := R.out (by omega)
        obtain rfl : x = ⟨b, o, none⟩ := by injection e
        clear e
        have z0 : wr.cell? ⟨b, o + k, none⟩ = some (.string (T k)) := by rw [BB.out.cell hb]; exact hc k hlt
        have q1 : (0 : Int) ≤ (k : Int) := by omega
        have q2 : (k : Int) < (n : Int) := by omega
        have y0 := TT.out.cell hlt (j := 0) (by omega)
        have y1 := TT.out.cell hlt (j := 1) (by omega)
        have y2 := TT.out.cell hlt (j := 2) (by omega)
        have y3 := TT.out.cell hlt (j := 3) (by omega)
        have y4 := TT.out.cell hlt (j := 4) (by omega)
        have y5 := TT.out.cell hlt (j := 5) (by omega)
        have y6 := TT.out.cell hlt (j := 6) (by omega)
        have v0 := TT.out.frozen (k * 7)
        have v1 := TT.out.frozen (k * 7 + 1)
        have v2 := TT.out.frozen (k * 7 + 2)
        have v3 := TT.out.frozen (k * 7 + 3)
        have v4 := TT.out.frozen (k * 7 + 4)
        have v5 := TT.out.frozen (k * 7 + 5)
        have v6 := TT.out.frozen (k * 7 + 6)
        rw [show k * 7 + 0 = k * 7 from rfl] at y0
        have B53 := @bld53
        clear hc
        go_wp2
        clear z0 y0 y1 y2 y3 y4 y5 y6 v0 v1 v2 v3 v4 v5 v6 B53
        go_roundw
        case rel =>
          have TS := Lib.hid (tpart_step TT.out hlt)
          refine ⟨k + 1, by omega, by go_num, ?_, ?_⟩
          · exact TS
          exact Lib.hid (((((((BB.out.setCell (Nat.le_refl _) _).setCell (Nat.le_refl _) _).setCell (Nat.le_refl _) _).setCell (Nat.le_refl _) _).setCell (Nat.le_refl _) _).setCell (Nat.le_refl _) _).setCell (Nat.le_refl _) _)
        case measure => simp [intOf]; omega
      · obtain rfl : k = n := by omega
        have HT := Lib.hid (TT.out.ext (f' := tc (fun _ => 29) T (fun _ => 0)) (fun i j hi _ => by unfold tpart; rw [if_pos hi]))
        go_wp2
        go_ret
        exact ⟨_, _, rfl, TR.of_tab HT.out, (fun h => by cases h), BB.out⟩
end Go.Proofs.Ytpbdfdmocaojgaa.MA
