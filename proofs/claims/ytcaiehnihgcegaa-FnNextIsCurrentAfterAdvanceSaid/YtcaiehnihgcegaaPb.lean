/- ZZNewParser_n011_101: what it lays. -/
import Derived.Test.YtcaiehnihgcegaaPa
namespace Go.Proofs.Ytcaiehnihgcegaa.PA
open Go.RowKit Go.Proofs.Ytcaiehnihgcegaa.TB
set_option linter.unusedVariables false
/-- The slice reads as numbers of kind k. -/
def Rd (w : World) (k : IntKind) (A : Option Addr) (n : Nat) (z : Nat → Int) : Prop := 0 < n → ∃ ad, A = some ad ∧ ad.block < w.heap.size ∧ ∀ i, i < n → w.cell? (ad.add i) = some (.int k (z i))
def tokF (z1 z2 z3 : Nat → Int) : Nat → Nat → Value := fun i j => #[Value.int .i32 (z2 i), .int .i32 (z3 i), .int .u16 0, .int .u8 (z1 i), .int .u8 0][j]!
def part (z1 z2 z3 : Nat → Int) (k : Nat) : Nat → Nat → Value := fun i j => if i < k then tokF z1 z2 z3 i j else #[Value.int .i32 0, .int .i32 0, .int .u16 0, .int .u8 0, .int .u8 0][j]!
theorem bld53 (x : Int) (w : World) : (Instr.build 53 #[(0, .int .i32 x)]).run Try.prog w = .ok (.agg #[.int .i32 x]) w := run_build w 53 _ _ (by kernel_rfl)
theorem bld55 (x y : Int) (w : World) : (Instr.build 55 #[(0, .agg #[.int .i32 x]), (1, .int .i32 y)]).run Try.prog w = .ok (.agg #[.int .i32 x, .int .i32 y]) w := run_build w 55 _ _ (by kernel_rfl)
theorem bld59 (x y z : Int) (w : World) : (Instr.build 59 #[(2, .int .u8 z), (0, .agg #[.int .i32 x, .int .i32 y])]).run Try.prog w = .ok (.agg #[.int .i32 x, .int .i32 y, .int .u16 0, .int .u8 z, .int .u8 0]) w := run_build w 59 _ _ (by kernel_rfl)
theorem five {j : Nat} (h : j < 5) : j = 0 ∨ j = 1 ∨ j = 2 ∨ j = 3 ∨ j = 4 := by omega
theorem part_step {w : World} {g n k : Nat} {z1 z2 z3 : Nat → Int} (h : Tab w g 59 5 n (part z1 z2 z3 k)) (hk : k < n) :
    Tab (((((w.setCell ⟨g, k * 5, none⟩ (.int .i32 (z2 k))).setCell ⟨g, k * 5 + 1, none⟩ (.int .i32 (z3 k))).setCell ⟨g, k * 5 + 2, none⟩ (.int .u16 0)).setCell ⟨g, k * 5 + 3, none⟩ (.int .u8 (z1 k))).setCell ⟨g, k * 5 + 4, none⟩ (.int .u8 0)) g 59 5 n (part z1 z2 z3 (k + 1)) := by
  refine (((((h.set hk (j := 0) (by omega) (.int .i32 (z2 k))).set hk (j := 1) (by omega) (.int .i32 (z3 k))).set hk (j := 2) (by omega) (.int .u16 0)).set hk (j := 3) (by omega) (.int .u8 (z1 k))).set hk (j := 4) (by omega) (.int .u8 0)).ext fun i j hi hj => ?_
  by_cases e : i = k
  · subst e
    rcases five hj with rfl | rfl | rfl | rfl | rfl <;> simp [upd, part, tokF]
  · have e1 : (i < k + 1) = (i < k) := by simp; omega
    simp [upd, part, e, e1]
set_option maxRecDepth 100000 in
set_option maxHeartbeats 1000000 in
theorem newParser (c : ByteArray) (A1 A2 A3 : Option Addr) (n c1 c2 c3 : Nat) (z1 z2 z3 : Nat → Int) (ix : Nat) (w : World) (r1 : Rd w .u8 A1 n z1) (r2 : Rd w .i32 A2 n z2) (r3 : Rd w .i32 A3 n z3) (hn : n ≤ 1048576) :
    Calls Try.prog 15 #[.string c, .slice A1 n c1, .slice A2 n c2, .slice A3 n c3, .int .i64 ix] w fun e w' => ∃ gp g, e = .returned (.pointer (some ⟨gp, 0, none⟩)) ∧ Par w' gp g n c ix (tokF z1 z2 z3) ∧ w.heap.size ≤ g ∧ Below w.heap.size w w' := by
  obtain ⟨i0, hi, hz0, hz1, hz2⟩ := info_parts info59
  have hmk := fun (W : World) => run_make (P := Try.prog) W 50 59 i0 _ Try.underlying50 hi hz0 .i64 .i64 n n (by omega) (by omega) (by rw [hz2]; omega) (by omega)
  have R1 := Lib.hid r1
  have R2 := Lib.hid r2
  have R3 := Lib.hid r3
  clear r1 r2 r3
  simp only [hz1, Int.toNat_natCast] at hmk
  have T0 := Lib.hid (Tab.new w 59 #[.int .i32 0, .int .i32 0, .int .u16 0, .int .u8 0, .int .u8 0] n 5 rfl (part z1 z2 z3 0) (fun i j _ _ => by unfold part; simp))
  go_enter Try.func15, Try.ntmps15
  go_wp2
  have B0 := Lib.hid (show Below w.heap.size w (w.alloc (.cells (madeCells #[.int .i32 0, .int .i32 0, .int .u16 0, .int .u8 0, .int .u8 0] (n * 5)) 59)) from (Below.refl _ _).alloc (Nat.le_refl _) _)
  generalize w.alloc (.cells (madeCells #[.int .i32 0, .int .i32 0, .int .u16 0, .int .u8 0, .int .u8 0] (n * 5)) 59) = W0 at *
  clear hmk
  go_loopw [12] (fun i wr => ∃ k : Nat, k ≤ n ∧ i = .int .i64 k ∧ Hid (Tab wr w.heap.size 59 5 n (part z1 z2 z3 k)) ∧ Hid (Below w.heap.size w wr)) (fun i _ => n - (intOf i).toNat)
  case atStart => exact ⟨0, Nat.zero_le _, rfl, T0, B0⟩
  case round =>
    obtain ⟨k, hk, rfl, T, BB⟩ := hrel
    by_cases hlt : k < n
    · obtain ⟨d1, rfl, b1, f1⟩ := R1.out (by omega)
      obtain ⟨d2, rfl, b2, f2⟩ := R2.out (by omega)
      obtain ⟨d3, rfl, b3, f3⟩ := R3.out (by omega)
      have x1 : wr.cell? (d1.add k) = some (.int .u8 (z1 k)) := by rw [BB.out.cell (by show (d1.add k).block < _; unfold Addr.add; split <;> exact b1)]; exact f1 k hlt
      have x2 : wr.cell? (d2.add k) = some (.int .i32 (z2 k)) := by rw [BB.out.cell (by show (d2.add k).block < _; unfold Addr.add; split <;> exact b2)]; exact f2 k hlt
      have x3 : wr.cell? (d3.add k) = some (.int .i32 (z3 k)) := by rw [BB.out.cell (by show (d3.add k).block < _; unfold Addr.add; split <;> exact b3)]; exact f3 k hlt
      clear f1 f2 f3 b1 b2 b3 T0 B0
      have q1 : (0 : Int) ≤ (k : Int) := by omega
      have q2 : (k : Int) < (n : Int) := by omega
      have y0 := T.out.cell hlt (j := 0) (by omega)
      have y1 := T.out.cell hlt (j := 1) (by omega)
      have y2 := T.out.cell hlt (j := 2) (by omega)
      have y3 := T.out.cell hlt (j := 3) (by omega)
      have y4 := T.out.cell hlt (j := 4) (by omega)
      have u0 := T.out.frozen (k * 5 + 0)
      have u1 := T.out.frozen (k * 5 + 1)
      have u2 := T.out.frozen (k * 5 + 2)
      have u3 := T.out.frozen (k * 5 + 3)
      have u4 := T.out.frozen (k * 5 + 4)
      rw [Nat.add_zero] at y0 u0
      have B53 := @bld53
      have B55 := @bld55
      have B59 := @bld59
      go_wp2
      go_region
      clear x1 x2 x3 y0 y1 y2 y3 y4 u0 u1 u2 u3 u4 B53 B55 B59
      go_wp2
      go_roundw
      case rel =>
        exact ⟨k + 1, by omega, by go_num, Lib.hid (part_step T.out hlt).drew, Lib.hid (((((BB.out.setCell (Nat.le_refl _) _).setCell (Nat.le_refl _) _).setCell (Nat.le_refl _) _).setCell (Nat.le_refl _) _).setCell (Nat.le_refl _) _).drew⟩
      case measure => simp [intOf]; omega
    · obtain rfl : k = n := by omega
      have HT := Lib.hid (T.out.ext (f' := tokF z1 z2 z3) (fun i j hi _ => by unfold part; rw [if_pos hi]))
      clear T T0 B0
      go_wp2
      go_ret
      refine ⟨wr.heap.size, w.heap.size, rfl, ⟨⟨by simp [go_sem], by simp [go_sem], by simp [go_sem], by simp [go_sem]⟩, HT.out.alloc _, HT.out.lt, by simp⟩, Nat.le_refl _, BB.out.alloc BB.out.size _⟩
end Go.Proofs.Ytcaiehnihgcegaa.PA
