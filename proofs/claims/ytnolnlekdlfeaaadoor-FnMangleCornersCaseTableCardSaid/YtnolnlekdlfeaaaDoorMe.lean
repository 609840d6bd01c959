/- FnMangleCornersCaseTable: the codes copied; the tokens made. -/
import Derived.Test.YtnolnlekdlfeaaaDoorMd
namespace Go.Proofs.YtnolnlekdlfeaaaDoor.ZT
open Go.RowKit Go.Proofs.YtnolnlekdlfeaaaDoor.TB
set_option linter.unusedVariables false
/-- A slice of codes. -/
def BR (w : World) (A : Option Addr) (n : Nat) (z : Nat → Int) : Prop := 0 < n → ∃ b o, A = some ⟨b, o, none⟩ ∧ b < w.heap.size ∧ ∀ i, i < n → w.cell? ⟨b, o + i, none⟩ = some (.int .u8 (z i))
theorem BR.below {w w' : World} {A : Option Addr} {n : Nat} {z : Nat → Int} (h : BR w A n z) (hb : Below w.heap.size w w') : BR w' A n z := by
  intro hn
  obtain ⟨b, o, e, hl, hc⟩ := h hn
  exact ⟨b, o, e, Nat.lt_of_lt_of_le hl hb.size, fun i hi => by rw [hb.cell hl]; exact hc i hi⟩
theorem tab1 {w : World} {g t n : Nat} {f : Nat → Nat → Value} (h : Tab w g t 1 n f) {i : Nat} (hi : i < n) : w.cell? ⟨g, i, none⟩ = some (f i 0) := by
  have := h.cell (i := i) (j := 0) hi (by omega)
  simpa using this
theorem one_step {w : World} {g t n k : Nat} {F : Nat → Value} {Z : Value} (h : Tab w g t 1 n (fun i _ => if i < k then F i else Z)) (hk : k < n) : Tab (w.setCell ⟨g, k, none⟩ (F k)) g t 1 n (fun i _ => if i < k + 1 then F i else Z) := by
  have h1 := h.set hk (j := 0) (by omega) (F k)
  rw [Nat.mul_one, Nat.add_zero] at h1
  refine h1.ext fun i j hi hj => ?_
  have hj0 : j = 0 := by omega
  unfold upd
  by_cases e : i = k
  · subst e; simp [hj0]
  · have e1 : (i < k + 1) = (i < k) := by simp; omega
    simp [e, e1]
def CopyP (n : Nat) (z : Nat → Int) (w : World) (e : Ending) (w' : World) : Prop := ∃ A' c', e = .returned (.slice A' n c') ∧ BR w' A' n z ∧ Below w.heap.size w w'
theorem info5 : (Tryd.prog.info? 5).map (fun i => (i.zero, i.size, i.bytes)) = some (some (.int .u8 0), 1, 1) := by kernel_rfl
set_option maxRecDepth 100000 in
set_option maxHeartbeats 1000000 in
theorem copy6 (A : Option Addr) (n c : Nat) (z : Nat → Int) (w : World) (r : BR w A n z) (hA : A = none → n = 0) (hn : n ≤ 1048576) :
    Calls Tryd.prog 6 #[.slice A n c] w (CopyP n z w) := by
  have eq1 := fun (w : World) (a : Option Addr) (n c n' c' : Nat) => Lib.run_eql_slice_nil (P := Tryd.prog) w 22 5 a n c n' c' Tryd.underlying22
  cases A with
  | none =>
    obtain rfl := hA rfl
    go_enter Tryd.func6, Tryd.ntmps6
    go_wp2
    go_ret
    exact ⟨none, 0, rfl, fun h => absurd h (by omega), Below.refl _ _⟩
  | some x =>
    obtain ⟨i0, hi, hz0, hz1, hz2⟩ := info_parts info5
    have hmk := fun (W : World) => run_make (P := Tryd.prog) W 22 5 i0 _ Tryd.underlying22 hi hz0 .i64 .i64 n n (by omega) (by omega) (by rw [hz2]; omega) (by omega)
    simp only [hz1, Int.toNat_natCast] at hmk
    have R := Lib.hid r
    clear r hA
    have T0 := Lib.hid (Tab.new w 5 #[.int .u8 0] n 1 rfl (fun i _ => if i < 0 then .int .u8 (z i) else .int .u8 0) (fun i j _ hj => by (have h0 : j = 0 := by omega); subst h0; simp))
    have B0 := Lib.hid (show Below w.heap.size w (w.alloc (.cells (madeCells #[.int .u8 0] (n * 1)) 5)) from (Below.refl _ _).alloc (Nat.le_refl _) _)
    rw [Nat.mul_one] at T0 B0
    go_enter Tryd.func6, Tryd.ntmps6
    go_wp2
    generalize w.alloc (.cells (madeCells #[.int .u8 0] n) 5) = W0 at *
    clear hmk
    go_loopw [4] (fun i wr => ∃ k : Nat, k ≤ n ∧ i = .int .i64 k ∧ Hid (Tab wr w.heap.size 5 1 n (fun i _ => if i < k then .int .u8 (z i) else .int .u8 0)) ∧ Hid (Below w.heap.size w wr)) (fun i _ => n - (intOf i).toNat)
    case atStart => exact ⟨0, Nat.zero_le _, rfl, T0, B0⟩
    case round =>
      obtain ⟨k, hk, rfl, TT, BB⟩ := hrel
      clear T0 B0
      by_cases hlt : k < n
      · obtain ⟨b, o, e, hb, hc⟩ := R.out (by omega)
        obtain rfl : x = ⟨b, o, none⟩ := by injection e
        clear e
        have z0 : wr.cell? ⟨b, o + k, none⟩ = some (.int .u8 (z k)) := by rw [BB.out.cell hb]; exact hc k hlt
        have q1 : (0 : Int) ≤ (k : Int) := by omega
        have q2 : (k : Int) < (n : Int) := by omega
        have y0 := tab1 TT.out hlt
        simp only [Nat.lt_irrefl, if_false] at y0
        have u0 := TT.out.frozen k
        clear hc
        go_wp2
        go_roundw
        case rel => exact ⟨k + 1, by omega, by go_num, Lib.hid (one_step (F := fun i => .int .u8 (z i)) TT.out hlt), Lib.hid (BB.out.setCell (Nat.le_refl _) _)⟩
        case measure => simp [intOf]; omega
      · obtain rfl : k = n := by omega
        go_wp2
        go_ret
        exact ⟨_, _, rfl, fun h0 => ⟨w.heap.size, 0, rfl, TT.out.lt, fun i hi => by rw [Nat.zero_add, tab1 TT.out hi, if_pos hi]⟩, BB.out⟩
theorem mang19 {g d : Nat} {A : Option Addr} {n c : Nat} {mw : Bool} {w : World} {R : Ending → World → Prop} (h : Calls Tryd.prog 23 #[.pointer (some ⟨g, 0, none⟩), .slice A n c, .pointer (some ⟨d, 0, none⟩), .bool mw] w R) (hr : ∀ e w', R e w' → e = .returned (.tuple #[])) :
    Calls Tryd.prog 19 #[.pointer (some ⟨g, 0, none⟩), .slice A n c, .pointer (some ⟨d, 0, none⟩), .bool mw] w R := by
  have H := Lib.hid h
  have HR := Lib.hid hr
  clear h hr
  go_enter Tryd.func19, Tryd.ntmps19
  go_wp2_with fail
  refine H.out.mono ?_
  intro e w' hh
  have h1 := HR.out _ _ hh
  subst h1
  have HH := Lib.hid hh
  clear hh
  go_wp2_with fail
  first
    | refine bodyPost_end (results_none rfl _ _ _) rfl ?_
    | refine bodyPost_ret (results_none rfl _ _ _) rfl ?_
  exact HH.out
/-- The tokens as far as they are made. -/
def tzq (Q : Nat → Nat) (k : Nat) : Nat → Nat → Value := fun i j => if i < k then tc (fun i => kq (Q i)) (fun i => tq (Q i)) (fun _ => 0) (fun _ => 0) i j else #[.pointer none, .string ⟨#[]⟩, .int .i32 0, .int .u32 0, .int .u16 0, .int .u8 0, .int .u8 0][j]!
theorem tzq_step {w : World} {g n k : Nat} {Q : Nat → Nat} (h : Tab w g 47 7 n (tzq Q k)) (hk : k < n) : Tab (((((((w.setCell ⟨g, k * 7, none⟩ (.pointer none)).setCell ⟨g, k * 7 + 1, none⟩ (.string (tq (Q k)))).setCell ⟨g, k * 7 + 2, none⟩ (.int .i32 0)).setCell ⟨g, k * 7 + 3, none⟩ (.int .u32 0)).setCell ⟨g, k * 7 + 4, none⟩ (.int .u16 0)).setCell ⟨g, k * 7 + 5, none⟩ (.int .u8 (kq (Q k)))).setCell ⟨g, k * 7 + 6, none⟩ (.int .u8 0)) g 47 7 n (tzq Q (k + 1)) := by
  have h0 := h.set hk (j := 0) (by omega) (.pointer none)
  have h1 := h0.set hk (j := 1) (by omega) (.string (tq (Q k)))
  have h2 := h1.set hk (j := 2) (by omega) (.int .i32 0)
  have h3 := h2.set hk (j := 3) (by omega) (.int .u32 0)
  have h4 := h3.set hk (j := 4) (by omega) (.int .u16 0)
  have h5 := h4.set hk (j := 5) (by omega) (.int .u8 (kq (Q k)))
  have h6 := h5.set hk (j := 6) (by omega) (.int .u8 0)
  rw [Nat.add_zero] at h6
  refine h6.ext fun i j hi hj => ?_
  by_cases e : i = k
  · subst e
    rcases seven hj with rfl | rfl | rfl | rfl | rfl | rfl | rfl <;> simp [upd, tzq, tc]
  · have e1 : (i < k + 1) = (i < k) := by simp; omega
    simp [upd, tzq, e, e1]
end Go.Proofs.YtnolnlekdlfeaaaDoor.ZT
