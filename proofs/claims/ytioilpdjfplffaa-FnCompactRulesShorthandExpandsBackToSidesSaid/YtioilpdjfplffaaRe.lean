/- Small functions of the laws on boxes: unit classes, counts, whitespace. Written by gen_boxe.py. -/
import Derived.Test.YtioilpdjfplffaaRp
namespace Go.Proofs.Ytioilpdjfplffaa.ZT
open Go.RowKit Go.Proofs.Ytioilpdjfplffaa.TB
set_option linter.unusedVariables false
set_option linter.unusedSimpArgs false
def cls (c : Int) (t : Bool) : Int := if c = 4 then 0 else if c = 5 then 2 else if c = 6 then 3 else if t then 2 else 1
def sst (m : Int) : Int := if m = 0 then 2 else if m = 2 then 1 else if m = 3 then 1 else 0
def sun (m : Int) : ByteArray := if m = 2 then { data := #[118, 119] } else if m = 3 then { data := #[118, 104] } else { data := #[] }
set_option maxRecDepth 100000 in
set_option maxHeartbeats 2000000 in
theorem class8 (c : Int) (t : Bool) (w : World) : Calls Try.prog 8 #[.int .u8 c, .bool t] w fun e w' => e = .returned (.int .i64 (cls c t)) ∧ Below w.heap.size w w' := by
  have B0 := Below.refl w.heap.size w
  unfold cls
  by_cases h4 : c = 4
  · subst h4
    go_enter Try.func8, Try.ntmps8
    go_wp2
    go_ret
    exact ⟨by simp, B0⟩
  · by_cases h5 : c = 5
    · subst h5
      go_enter Try.func8, Try.ntmps8
      go_wp2
      go_ret
      exact ⟨by simp, B0⟩
    · by_cases h6 : c = 6
      · subst h6
        go_enter Try.func8, Try.ntmps8
        go_wp2
        go_ret
        exact ⟨by simp, B0⟩
      · cases t
        all_goals
          go_enter Try.func8, Try.ntmps8
          go_wp2
          go_ret
          exact ⟨by simp [h4, h5, h6], B0⟩
set_option maxRecDepth 100000 in
set_option maxHeartbeats 2000000 in
theorem safety9 (m : Int) (w : World) : Calls Try.prog 9 #[.int .i64 m] w fun e w' => e = .returned (.tuple #[.int .u8 (sst m), .string (sun m)]) ∧ Below w.heap.size w w' := by
  have B0 := Below.refl w.heap.size w
  unfold sst sun
  by_cases h0 : m = 0
  · subst h0
    go_enter Try.func9, Try.ntmps9
    go_wp2
    refine bodyPost_ret (v := .tuple #[.int .u8 2, .string { data := #[] }]) (by simp [results, Try.results9, go_sem]; done) rfl ⟨by simp, B0⟩
  · by_cases h2 : m = 2
    · subst h2
      go_enter Try.func9, Try.ntmps9
      go_wp2
      refine bodyPost_ret (v := .tuple #[.int .u8 1, .string { data := #[118, 119] }]) (by simp [results, Try.results9, go_sem]; done) rfl ⟨by simp, B0⟩
    · by_cases h3 : m = 3
      · subst h3
        go_enter Try.func9, Try.ntmps9
        go_wp2
        refine bodyPost_ret (v := .tuple #[.int .u8 1, .string { data := #[118, 104] }]) (by simp [results, Try.results9, go_sem]; done) rfl ⟨by simp, B0⟩
      · go_enter Try.func9, Try.ntmps9
        go_wp2
        refine bodyPost_ret (v := .tuple #[.int .u8 0, .string { data := #[] }]) (by simp [results, Try.results9, go_sem]; done) rfl ⟨by simp [h0, h2, h3], B0⟩
set_option maxRecDepth 100000 in
set_option maxHeartbeats 2000000 in
theorem want20 (i n : Nat) (mw : Bool) (w : World) (hi : i < 4) (hn : n ≤ 4) : Calls Try.prog 20 #[.int .i64 i, .int .i64 n, .bool mw] w fun e w' => e = .returned (.int .u8 (wsv n mw i)) ∧ Below w.heap.size w w' := by
  have B0 := Below.refl w.heap.size w
  rcases (by omega : i = 0 ∨ i = 1 ∨ i = 2 ∨ i = 3) with rfl | rfl | rfl | rfl <;> rcases (by omega : n = 0 ∨ n = 1 ∨ n = 2 ∨ n = 3 ∨ n = 4) with rfl | rfl | rfl | rfl | rfl <;> cases mw
  all_goals
    go_enter Try.func20, Try.ntmps20
    go_wp2
    go_ret
    exact ⟨by simp [wsv, bt1, bt2, bt3], B0⟩
/-- Whether n values stand for the four. -/
def xpd (q : Nat → Int) (n : Nat) : Bool :=
  ((if 1 < n then q 1 else q 0) == q 1) && (((if 2 < n then q 2 else q 0) == q 2) && ((if 3 < n then q 3 else (if 1 < n then q 1 else q 0)) == q 3))
def mc (q : Nat → Int) : Nat := if xpd q 1 = true then 1 else if xpd q 2 = true then 2 else if xpd q 3 = true then 3 else 4
def qA (q : Nat → Int) : Value := .agg #[.int .u8 (q 0), .int .u8 (q 1), .int .u8 (q 2), .int .u8 (q 3)]

set_option maxRecDepth 100000 in
set_option maxHeartbeats 2000000 in
theorem exp24_1 (q : Nat → Int) (w : World) : Calls Try.prog 24 #[.agg #[.int .u8 (q 0), .int .u8 (q 1), .int .u8 (q 2), .int .u8 (q 3)], .int .i64 1] w fun e w' => e = .returned (.bool (xpd q 1)) ∧ Below w.heap.size w w' := by
  have B0 := Lib.hid (fun (ob : Obj) => show Below w.heap.size w (w.alloc ob) from (Below.refl _ _).alloc (Nat.le_refl _) _)
  cases x01 : (q 0 == q 1) <;> cases x02 : (q 0 == q 2) <;> cases x03 : (q 0 == q 3)
  all_goals
    go_enter Try.func24, Try.ntmps24
    go_wp2
    go_ret
    exact ⟨by simp_all [xpd], by first | exact B0.out _ | exact (B0.out _).drew⟩
set_option maxRecDepth 100000 in
set_option maxHeartbeats 2000000 in
theorem exp24_2 (q : Nat → Int) (w : World) : Calls Try.prog 24 #[.agg #[.int .u8 (q 0), .int .u8 (q 1), .int .u8 (q 2), .int .u8 (q 3)], .int .i64 2] w fun e w' => e = .returned (.bool (xpd q 2)) ∧ Below w.heap.size w w' := by
  have B0 := Lib.hid (fun (ob : Obj) => show Below w.heap.size w (w.alloc ob) from (Below.refl _ _).alloc (Nat.le_refl _) _)
  cases x02 : (q 0 == q 2) <;> cases x13 : (q 1 == q 3)
  all_goals
    go_enter Try.func24, Try.ntmps24
    go_wp2
    go_ret
    exact ⟨by simp_all [xpd], by first | exact B0.out _ | exact (B0.out _).drew⟩
set_option maxRecDepth 100000 in
set_option maxHeartbeats 2000000 in
theorem exp24_3 (q : Nat → Int) (w : World) : Calls Try.prog 24 #[.agg #[.int .u8 (q 0), .int .u8 (q 1), .int .u8 (q 2), .int .u8 (q 3)], .int .i64 3] w fun e w' => e = .returned (.bool (xpd q 3)) ∧ Below w.heap.size w w' := by
  have B0 := Lib.hid (fun (ob : Obj) => show Below w.heap.size w (w.alloc ob) from (Below.refl _ _).alloc (Nat.le_refl _) _)
  cases x13 : (q 1 == q 3)
  all_goals
    go_enter Try.func24, Try.ntmps24
    go_wp2
    go_ret
    exact ⟨by simp_all [xpd], by first | exact B0.out _ | exact (B0.out _).drew⟩
theorem al_step {q : Nat → Int} {k : Nat} (h : ∀ j, 1 ≤ j → j < k → xpd q j = false) (hx : xpd q k = false) : ∀ j, 1 ≤ j → j < k + 1 → xpd q j = false := fun j h1 h2 => by
  rcases Nat.lt_or_eq_of_le (Nat.le_of_lt_succ h2) with h3 | h3
  · exact h j h1 h3
  · rw [h3]; exact hx
theorem mc_1 {q : Nat → Int} (h : ∀ j, 1 ≤ j → j < 1 → xpd q j = false) (hx : xpd q 1 = true) : mc q = 1 := by simp [mc, hx]
theorem mc_2 {q : Nat → Int} (h : ∀ j, 1 ≤ j → j < 2 → xpd q j = false) (hx : xpd q 2 = true) : mc q = 2 := by simp [mc, hx, h 1]
theorem mc_3 {q : Nat → Int} (h : ∀ j, 1 ≤ j → j < 3 → xpd q j = false) (hx : xpd q 3 = true) : mc q = 3 := by simp [mc, hx, h 1, h 2]
theorem mc_4 {q : Nat → Int} (h : ∀ j, 1 ≤ j → j < 4 → xpd q j = false) : mc q = 4 := by simp [mc, h 1, h 2, h 3]
set_option maxRecDepth 100000 in
set_option maxHeartbeats 4000000 in
theorem count19 (q : Nat → Int) (w : World) : Calls Try.prog 19 #[.agg #[.int .u8 (q 0), .int .u8 (q 1), .int .u8 (q 2), .int .u8 (q 3)]] w fun e w' => e = .returned (.int .i64 (mc q)) ∧ Below w.heap.size w w' := by
  have B0 := Lib.hid (fun (ob : Obj) => show Below w.heap.size w (w.alloc ob) from (Below.refl _ _).alloc (Nat.le_refl _) _)
  have BB := Lib.hid (show Blk (w.alloc (.cells #[.int .u8 (q 0), .int .u8 (q 1), .int .u8 (q 2), .int .u8 (q 3)] 50)) w.heap.size 50 #[.int .u8 (q 0), .int .u8 (q 1), .int .u8 (q 2), .int .u8 (q 3)] from Blk.new w 50 _)
  have hz : w.heap.size < (w.alloc (.cells #[.int .u8 (q 0), .int .u8 (q 1), .int .u8 (q 2), .int .u8 (q 3)] 50)).heap.size := by simp
  go_enter Try.func19, Try.ntmps19
  go_wp2_with fail
  have BK := Lib.hid (B0.out (.cells #[.int .u8 (q 0), .int .u8 (q 1), .int .u8 (q 2), .int .u8 (q 3)] 50))
  clear B0
  generalize w.alloc (.cells #[.int .u8 (q 0), .int .u8 (q 1), .int .u8 (q 2), .int .u8 (q 3)] 50) = W0 at *
  generalize hgg : w.heap.size = gg at *
  go_loopw [3] (fun i wr => ∃ k : Nat, 1 ≤ k ∧ k ≤ 4 ∧ i = .int .i64 k ∧ Hid (Below W0.heap.size W0 wr) ∧ Hid (∀ j, 1 ≤ j → j < k → xpd q j = false)) (fun i _ => 4 - (intOf i).toNat)
  case atStart => exact ⟨1, by omega, by omega, rfl, Lib.hid (Below.refl _ _), Lib.hid (fun j h1 h2 => by omega)⟩
  case round =>
    obtain ⟨k, hk1, hk, rfl, RB, AL⟩ := hrel
    have XB := Lib.hid (BB.out.below RB.out BB.out.lt)
    by_cases hlt : k < 4
    · rcases (by omega : k = 1 ∨ k = 2 ∨ k = 3) with rfl | rfl | rfl
      · have c0 : wr.cell? ⟨gg, 0, none⟩ = some (.int .u8 (q 0)) := XB.out.cell 0
        have c1 : wr.cell? ⟨gg, 1, none⟩ = some (.int .u8 (q 1)) := XB.out.cell 1
        have c2 : wr.cell? ⟨gg, 2, none⟩ = some (.int .u8 (q 2)) := XB.out.cell 2
        have c3 : wr.cell? ⟨gg, 3, none⟩ = some (.int .u8 (q 3)) := XB.out.cell 3
        cases hx : xpd q 1 with
        | true =>
          have hm := mc_1 AL.out hx
          have HM := Lib.hid hm
          have HX := Lib.hid hx
          clear hx hm
          go_wp2_with fail
          refine (exp24_1 q _).mono ?_
          rintro e w9 ⟨rfl, hb9⟩
          have R9 := Lib.hid (RB.out.trans (hb9.mono RB.out.size))
          clear hb9
          rw [HX.out]
          go_wp2_with fail
          go_ret
          exact ⟨by rw [HM.out]; rfl, by rw [hgg]; exact BK.out.trans (R9.out.mono (by rw [← hgg]; exact BK.out.size))⟩
        | false =>
          have AL2 := Lib.hid (al_step AL.out hx)
          have HX := Lib.hid hx
          clear hx
          go_wp2_with fail
          refine (exp24_1 q _).mono ?_
          rintro e w9 ⟨rfl, hb9⟩
          have R9 := Lib.hid (RB.out.trans (hb9.mono RB.out.size))
          clear hb9
          rw [HX.out]
          go_wp2_with fail
          all_goals
            go_roundw
            case rel => exact ⟨2, by omega, by omega, by go_num, R9, AL2⟩
            case measure => simp [intOf]
      · have c0 : wr.cell? ⟨gg, 0, none⟩ = some (.int .u8 (q 0)) := XB.out.cell 0
        have c1 : wr.cell? ⟨gg, 1, none⟩ = some (.int .u8 (q 1)) := XB.out.cell 1
        have c2 : wr.cell? ⟨gg, 2, none⟩ = some (.int .u8 (q 2)) := XB.out.cell 2
        have c3 : wr.cell? ⟨gg, 3, none⟩ = some (.int .u8 (q 3)) := XB.out.cell 3
        cases hx : xpd q 2 with
        | true =>
          have hm := mc_2 AL.out hx
          have HM := Lib.hid hm
          have HX := Lib.hid hx
          clear hx hm
          go_wp2_with fail
          refine (exp24_2 q _).mono ?_
          rintro e w9 ⟨rfl, hb9⟩
          have R9 := Lib.hid (RB.out.trans (hb9.mono RB.out.size))
          clear hb9
          rw [HX.out]
          go_wp2_with fail
          go_ret
          exact ⟨by rw [HM.out]; rfl, by rw [hgg]; exact BK.out.trans (R9.out.mono (by rw [← hgg]; exact BK.out.size))⟩
        | false =>
          have AL2 := Lib.hid (al_step AL.out hx)
          have HX := Lib.hid hx
          clear hx
          go_wp2_with fail
          refine (exp24_2 q _).mono ?_
          rintro e w9 ⟨rfl, hb9⟩
          have R9 := Lib.hid (RB.out.trans (hb9.mono RB.out.size))
          clear hb9
          rw [HX.out]
          go_wp2_with fail
          all_goals
            go_roundw
            case rel => exact ⟨3, by omega, by omega, by go_num, R9, AL2⟩
            case measure => simp [intOf]
      · have c0 : wr.cell? ⟨gg, 0, none⟩ = some (.int .u8 (q 0)) := XB.out.cell 0
        have c1 : wr.cell? ⟨gg, 1, none⟩ = some (.int .u8 (q 1)) := XB.out.cell 1
        have c2 : wr.cell? ⟨gg, 2, none⟩ = some (.int .u8 (q 2)) := XB.out.cell 2
        have c3 : wr.cell? ⟨gg, 3, none⟩ = some (.int .u8 (q 3)) := XB.out.cell 3
        cases hx : xpd q 3 with
        | true =>
          have hm := mc_3 AL.out hx
          have HM := Lib.hid hm
          have HX := Lib.hid hx
          clear hx hm
          go_wp2_with fail
          refine (exp24_3 q _).mono ?_
          rintro e w9 ⟨rfl, hb9⟩
          have R9 := Lib.hid (RB.out.trans (hb9.mono RB.out.size))
          clear hb9
          rw [HX.out]
          go_wp2_with fail
          go_ret
          exact ⟨by rw [HM.out]; rfl, by rw [hgg]; exact BK.out.trans (R9.out.mono (by rw [← hgg]; exact BK.out.size))⟩
        | false =>
          have AL2 := Lib.hid (al_step AL.out hx)
          have HX := Lib.hid hx
          clear hx
          go_wp2_with fail
          refine (exp24_3 q _).mono ?_
          rintro e w9 ⟨rfl, hb9⟩
          have R9 := Lib.hid (RB.out.trans (hb9.mono RB.out.size))
          clear hb9
          rw [HX.out]
          go_wp2_with fail
          all_goals
            go_roundw
            case rel => exact ⟨4, by omega, by omega, by go_num, R9, AL2⟩
            case measure => simp [intOf]
    · obtain rfl : k = 4 := by omega
      have HM := Lib.hid (mc_4 AL.out)
      go_wp2_with fail
      go_ret
      exact ⟨by rw [HM.out]; rfl, by rw [hgg]; exact BK.out.trans (RB.out.mono (by rw [← hgg]; exact BK.out.size))⟩
end Go.Proofs.Ytioilpdjfplffaa.ZT
