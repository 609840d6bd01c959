/- FnMangleCornersCaseTable: zzMinimal. -/
import Derived.Test.YtnolnlekdlfeaaaDoorMg
namespace Go.Proofs.YtnolnlekdlfeaaaDoor.ZT
open Go.RowKit Go.Proofs.YtnolnlekdlfeaaaDoor.TB
set_option linter.unusedVariables false
theorem eq48 (a b c d a' b' c' d' : Int) (w : World) : (Op.equalIn 10000 48 (.agg #[.int .u8 a, .int .u8 b, .int .u8 c, .int .u8 d]) (.agg #[.int .u8 a', .int .u8 b', .int .u8 c', .int .u8 d'])).run Tryd.prog w = .ok (a == a' && (b == b' && (c == c' && d == d'))) w := by
  have u3 := Tryd.underlying5
  have a3 := Tryd.isAgg5
  have z3 := Tryd.sizeOf5
  rw [show (10000 : Nat) = 9999 + 1 from rfl, Op.equalIn]
  simp only [Sem.run_bind, run_underlying Tryd.underlying48, Result.andThen_ok]
  simp only [Std.Legacy.Range.forIn_eq_forIn_range', Std.Legacy.Range.size, Nat.sub_zero, Nat.add_sub_cancel, Nat.div_one, List.range'_succ, List.range'_zero, List.forIn_cons, List.forIn_nil]
  go_simp
  by_cases h1 : a = a' <;> by_cases h2 : b = b' <;> by_cases h3 : c = c' <;> by_cases h4 : d = d' <;> simp [h1, h2, h3, h4]
/-- A box of four codes. -/
def YJ (wr : World) (gb : Nat) (y : Nat → Int) (w' : World) : Prop :=
  Below wr.heap.size wr w' ∧ gb < wr.heap.size ∧ w'.cell? ⟨gb, 0, none⟩ = some (.int .u8 (y 0)) ∧ w'.cell? ⟨gb, 1, none⟩ = some (.int .u8 (y 1)) ∧ w'.cell? ⟨gb, 2, none⟩ = some (.int .u8 (y 2)) ∧ w'.cell? ⟨gb, 3, none⟩ = some (.int .u8 (y 3))
theorem YJ.step {wr : World} {gb : Nat} {y : Nat → Int} {w1 w2 : World} (h : YJ wr gb y w1) (hb : Below w1.heap.size w1 w2) : YJ wr gb y w2 := by
  obtain ⟨h0, h1, x0, x1, x2, x3⟩ := h
  have e1 : gb < w1.heap.size := Nat.lt_of_lt_of_le h1 h0.size
  exact ⟨h0.trans (hb.mono h0.size), h1, (hb.cell e1).trans x0, (hb.cell e1).trans x1, (hb.cell e1).trans x2, (hb.cell e1).trans x3⟩
/-- Do k of the codes give all four? -/
def m4 (y : Nat → Int) (k : Nat) : Bool := (y (sel k 0) == y 0) && ((y (sel k 1) == y 1) && ((y (sel k 2) == y 2) && (y (sel k 3) == y 3)))
def mn (y : Nat → Int) : Nat := if m4 y 1 = true then 1 else if m4 y 2 = true then 2 else if m4 y 3 = true then 3 else 4
set_option maxRecDepth 100000 in
set_option maxHeartbeats 2000000 in
theorem minimal20 (y : Nat → Int) (w : World) : Calls Tryd.prog 20 #[.agg #[.int .u8 (y 0), .int .u8 (y 1), .int .u8 (y 2), .int .u8 (y 3)]] w fun e w' => e = .returned (.int .i64 (mn y : Int)) ∧ Below w.heap.size w w' := by
  have B0 := Lib.hid (show Below w.heap.size w (w.alloc (.cells #[.int .u8 (y 0), .int .u8 (y 1), .int .u8 (y 2), .int .u8 (y 3)] 48)) from (Below.refl _ _).alloc (Nat.le_refl _) _)
  have K0 := Lib.hid (Blk.new w 48 #[.int .u8 (y 0), .int .u8 (y 1), .int .u8 (y 2), .int .u8 (y 3)])
  go_enter Tryd.func20, Tryd.ntmps20
  go_wp2_with fail
  generalize w.alloc (.cells #[.int .u8 (y 0), .int .u8 (y 1), .int .u8 (y 2), .int .u8 (y 3)] 48) = W0 at *
  obtain ⟨gb, hgb⟩ : ∃ gb, w.heap.size = gb := ⟨_, rfl⟩
  rw [hgb] at K0
  have HG := Lib.hid hgb
  simp only [hgb]
  clear hgb
  go_loopw [3] (fun i wr => ∃ k : Nat, 1 ≤ k ∧ k ≤ 4 ∧ i = .int .i64 k ∧ Hid (Blk wr gb 48 #[.int .u8 (y 0), .int .u8 (y 1), .int .u8 (y 2), .int .u8 (y 3)]) ∧ Hid (Below w.heap.size w wr) ∧ Hid (∀ j, 1 ≤ j → j < k → m4 y j = false)) (fun i _ => 4 - (intOf i).toNat)
  case atStart => exact ⟨1, by omega, by omega, rfl, K0, B0, Lib.hid (fun j h1 h2 => absurd h2 (by omega))⟩
  case round =>
    obtain ⟨k, hk1, hk, rfl, KB, BB, AL⟩ := hrel
    clear K0 B0
    by_cases hlt : k < 4
    · have q1 : (1 : Int) ≤ (k : Int) := by omega
      have q2 : (k : Int) < 4 := by omega
      have q3 : (0 : Int) ≤ (k : Int) := by omega
      have q4 : (k : Int) ≤ 4 := by omega
      have EX := Lib.hid (fun W (h : YJ wr gb y W) => expand10 gb 0 k 4 y W hk1 (by omega) (Nat.lt_of_lt_of_le h.2.1 h.1.size) (fun i hi => by
        obtain ⟨-, -, x0, x1, x2, x3⟩ := h
        rw [Nat.zero_add]
        rcases (by omega : i = 0 ∨ i = 1 ∨ i = 2 ∨ i = 3) with rfl | rfl | rfl | rfl <;> assumption))
      have hgl := KB.out.lt
      have e48 := eq48
      have START := Lib.hid (show YJ wr gb y wr.drew from ⟨(Below.refl _ _).drew, hgl, KB.out.cell 0, KB.out.cell 1, KB.out.cell 2, KB.out.cell 3⟩)
      have STEP := Lib.hid (fun w1 w2 (h : YJ wr gb y w1) (hb : Below w1.heap.size w1 w2) => h.step hb)
      go_upto_region 4 with fail
      go_region_held3 (fun w' => Below wr.heap.size wr w' ∧ gb < wr.heap.size ∧ w'.cell? ⟨gb, 0, none⟩ = some (.int .u8 (y 0)) ∧ w'.cell? ⟨gb, 1, none⟩ = some (.int .u8 (y 1)) ∧ w'.cell? ⟨gb, 2, none⟩ = some (.int .u8 (y 2)) ∧ w'.cell? ⟨gb, 3, none⟩ = some (.int .u8 (y 3)))
        (first | assumption | exact START.out)
        (first | (go_at_call 10; refine (EX.out _ (by assumption)).mono ?_; rintro e_ w9 ⟨rfl, hb9⟩; have hI := STEP.out _ _ (by assumption) hb9; clear hb9; unfold YJ at hI; unfold x4))
      have hy := Lib.hid (And.left (show YJ wr gb y w9 by assumption))
      have K9 := Lib.hid (KB.out.below hy.out KB.out.lt)
      have B9 := Lib.hid (BB.out.trans (hy.out.mono BB.out.size))
      clear KB BB START STEP EX e48
      cases hm : m4 y k
      case' false =>
        have hm' : (y (sel k 0) == y 0 && (y (sel k 1) == y 1 && (y (sel k 2) == y 2 && y (sel k 3) == y 3))) = false := hm
        have AL2 := Lib.hid (show ∀ j, 1 ≤ j → j < k + 1 → m4 y j = false from fun j h1 h2 => by
          rcases Nat.lt_or_eq_of_le (Nat.le_of_lt_succ h2) with h | h
          · exact AL.out j h1 h
          · rw [h]; exact hm)
        rw [hm']
        clear hm hm'
        go_wp2_with fail
        go_roundw
        case rel => exact ⟨k + 1, by omega, by omega, by go_num, K9, B9, AL2⟩
        case measure => simp [intOf]; omega
      case' true =>
        have hm' : (y (sel k 0) == y 0 && (y (sel k 1) == y 1 && (y (sel k 2) == y 2 && y (sel k 3) == y 3))) = true := hm
        have HMN := Lib.hid (show (mn y : Int) = (k : Int) from by
          have a := AL.out
          unfold mn
          rcases (by omega : k = 1 ∨ k = 2 ∨ k = 3) with rfl | rfl | rfl
          · rw [if_pos hm]
          · rw [if_neg (by rw [a 1 (by omega) (by omega)]; decide), if_pos hm]
          · rw [if_neg (by rw [a 1 (by omega) (by omega)]; decide), if_neg (by rw [a 2 (by omega) (by omega)]; decide), if_pos hm])
        rw [hm']
        clear hm hm'
        go_wp2_with fail
        go_ret
        exact ⟨by simpa using HMN.out.symm, B9.out⟩
    · obtain rfl : k = 4 := by omega
      have HMN := Lib.hid (show (mn y : Int) = 4 from by
        have a := AL.out
        unfold mn
        rw [if_neg (by rw [a 1 (by omega) (by omega)]; decide), if_neg (by rw [a 2 (by omega) (by omega)]; decide), if_neg (by rw [a 3 (by omega) (by omega)]; decide)]
        rfl)
      go_wp2_with fail
      go_ret
      exact ⟨by simpa using HMN.out.symm, BB.out⟩
end Go.Proofs.YtnolnlekdlfeaaaDoor.ZT
