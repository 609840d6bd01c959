/- compactTokenQuad at tokens without children. one case. Printed by gen_compact.py. -/
import Derived.Test.YtnolnlekdlfeaaaDoorGb
import Derived.Deep.RegionHeld3
namespace Go.Proofs.YtnolnlekdlfeaaaDoor.ZT
open Go.RowKit Go.Proofs.YtnolnlekdlfeaaaDoor.TB
set_option linter.unusedVariables false
set_option maxRecDepth 100000 in
set_option maxHeartbeats 4000000 in
theorem compact3 (K : Nat → Int) (T : Nat → ByteArray) (W L : Nat → Int) (mw : Bool) (w : World) (e31 : eqT (K 3) (K 1) (T 3) (T 1) = true) (e20 : eqT (K 2) (K 0) (T 2) (T 0) = false) :
    Calls Tryd.prog 36 #[.agg #[.pointer none, .string (T 0), .int .i32 (L 0), .int .u32 0, .int .u16 0, .int .u8 (K 0), .int .u8 (W 0)], .agg #[.pointer none, .string (T 1), .int .i32 (L 1), .int .u32 0, .int .u16 0, .int .u8 (K 1), .int .u8 (W 1)], .agg #[.pointer none, .string (T 2), .int .i32 (L 2), .int .u32 0, .int .u16 0, .int .u8 (K 2), .int .u8 (W 2)], .agg #[.pointer none, .string (T 3), .int .i32 (L 3), .int .u32 0, .int .u16 0, .int .u8 (K 3), .int .u8 (W 3)], .bool mw] w (CompP 3 K T L mw w) := by
  have E31 := Lib.hid e31
  clear e31
  have E20 := Lib.hid e20
  clear e20
  have hbs := fun (W' : World) => bs K T W L W'
  have T0 := Lib.hid (fun (X : World) => show Tab (X.alloc (.cells (q28 K T W L 0 1 2 3) 47)) X.heap.size 47 7 4 (tc K T W L) from tab_new X)
  have B0 := Lib.hid (fun (o1 o2 o3 o4 o5 : Obj) => show Below w.heap.size w (((((w.alloc o1).alloc o2).alloc o3).alloc o4).alloc o5) from (((((Below.refl _ w).alloc (Nat.le_refl _) _).alloc (by simp) _).alloc (by simp; omega) _).alloc (by simp; omega) _).alloc (by simp; omega) _)
  have HG := Lib.hid (show w.heap.size ≤ w.heap.size + 1 + 1 + 1 + 1 by omega)
  unfold q28 at T0
  go_enter Tryd.func36, Tryd.ntmps36
  go_upto_region 2 with fail
  have TW := Lib.hid (T0.out ((((w.alloc (.cells #[.pointer none, .string (T 0), .int .i32 (L 0), .int .u32 0, .int .u16 0, .int .u8 (K 0), .int .u8 (W 0)] 47)).alloc (.cells #[.pointer none, .string (T 1), .int .i32 (L 1), .int .u32 0, .int .u16 0, .int .u8 (K 1), .int .u8 (W 1)] 47)).alloc (.cells #[.pointer none, .string (T 2), .int .i32 (L 2), .int .u32 0, .int .u16 0, .int .u8 (K 2), .int .u8 (W 2)] 47)).alloc (.cells #[.pointer none, .string (T 3), .int .i32 (L 3), .int .u32 0, .int .u16 0, .int .u8 (K 3), .int .u8 (W 3)] 47)))
  have BW := Lib.hid (B0.out (.cells #[.pointer none, .string (T 0), .int .i32 (L 0), .int .u32 0, .int .u16 0, .int .u8 (K 0), .int .u8 (W 0)] 47) (.cells #[.pointer none, .string (T 1), .int .i32 (L 1), .int .u32 0, .int .u16 0, .int .u8 (K 1), .int .u8 (W 1)] 47) (.cells #[.pointer none, .string (T 2), .int .i32 (L 2), .int .u32 0, .int .u16 0, .int .u8 (K 2), .int .u8 (W 2)] 47) (.cells #[.pointer none, .string (T 3), .int .i32 (L 3), .int .u32 0, .int .u16 0, .int .u8 (K 3), .int .u8 (W 3)] 47) (.cells #[.pointer none, .string (T 0), .int .i32 (L 0), .int .u32 0, .int .u16 0, .int .u8 (K 0), .int .u8 (W 0), .pointer none, .string (T 1), .int .i32 (L 1), .int .u32 0, .int .u16 0, .int .u8 (K 1), .int .u8 (W 1), .pointer none, .string (T 2), .int .i32 (L 2), .int .u32 0, .int .u16 0, .int .u8 (K 2), .int .u8 (W 2), .pointer none, .string (T 3), .int .i32 (L 3), .int .u32 0, .int .u16 0, .int .u8 (K 3), .int .u8 (W 3)] 47))
  simp only [World.size_alloc] at TW
  clear hbs T0 B0
  generalize (((((w.alloc (.cells #[.pointer none, .string (T 0), .int .i32 (L 0), .int .u32 0, .int .u16 0, .int .u8 (K 0), .int .u8 (W 0)] 47)).alloc (.cells #[.pointer none, .string (T 1), .int .i32 (L 1), .int .u32 0, .int .u16 0, .int .u8 (K 1), .int .u8 (W 1)] 47)).alloc (.cells #[.pointer none, .string (T 2), .int .i32 (L 2), .int .u32 0, .int .u16 0, .int .u8 (K 2), .int .u8 (W 2)] 47)).alloc (.cells #[.pointer none, .string (T 3), .int .i32 (L 3), .int .u32 0, .int .u16 0, .int .u8 (K 3), .int .u8 (W 3)] 47)).alloc (.cells #[.pointer none, .string (T 0), .int .i32 (L 0), .int .u32 0, .int .u16 0, .int .u8 (K 0), .int .u8 (W 0), .pointer none, .string (T 1), .int .i32 (L 1), .int .u32 0, .int .u16 0, .int .u8 (K 1), .int .u8 (W 1), .pointer none, .string (T 2), .int .i32 (L 2), .int .u32 0, .int .u16 0, .int .u8 (K 2), .int .u8 (W 2), .pointer none, .string (T 3), .int .i32 (L 3), .int .u32 0, .int .u16 0, .int .u8 (K 3), .int .u8 (W 3)] 47)) = WW at *
  generalize w.heap.size + 1 + 1 + 1 + 1 = g at *
  obtain ⟨wr, rfl⟩ : ∃ wr : World, wr = WW := ⟨_, rfl⟩
  go_cut [25] (fun s wx => s = .bool (eqT (K 3) (K 1) (T 3) (T 1)) ∧ Hid (Below wr.heap.size wr wx))
  case first =>
    have START := Lib.hid (show SJ wr g 21 g 7 (T 3) (L 3) (K 3) (W 3) (T 1) (L 1) (K 1) (W 1) wr.drew from ⟨(Below.refl _ _).drew, TW.out.lt, TW.out.lt, TW.out.cell (i := 3) (j := 0) (by omega) (by omega), TW.out.cell (i := 3) (j := 1) (by omega) (by omega), TW.out.cell (i := 3) (j := 2) (by omega) (by omega), TW.out.cell (i := 3) (j := 3) (by omega) (by omega), TW.out.cell (i := 3) (j := 4) (by omega) (by omega), TW.out.cell (i := 3) (j := 5) (by omega) (by omega), TW.out.cell (i := 3) (j := 6) (by omega) (by omega), TW.out.cell (i := 1) (j := 0) (by omega) (by omega), TW.out.cell (i := 1) (j := 1) (by omega) (by omega), TW.out.cell (i := 1) (j := 2) (by omega) (by omega), TW.out.cell (i := 1) (j := 3) (by omega) (by omega), TW.out.cell (i := 1) (j := 4) (by omega) (by omega), TW.out.cell (i := 1) (j := 5) (by omega) (by omega), TW.out.cell (i := 1) (j := 6) (by omega) (by omega)⟩)
    have STEP := Lib.hid (fun w1 w2 (hc : SJ wr g 21 g 7 (T 3) (L 3) (K 3) (W 3) (T 1) (L 1) (K 1) (W 1) w1) (hx : Below w1.heap.size w1 w2) => hc.step hx)
    go_region_held3 (fun w' => Below wr.heap.size wr w' ∧ g < wr.heap.size ∧ g < wr.heap.size ∧ w'.cell? ⟨g, 21, none⟩ = some (.pointer none) ∧ w'.cell? ⟨g, 22, none⟩ = some (.string (T 3)) ∧ w'.cell? ⟨g, 23, none⟩ = some (.int .i32 (L 3)) ∧ w'.cell? ⟨g, 24, none⟩ = some (.int .u32 0) ∧ w'.cell? ⟨g, 25, none⟩ = some (.int .u16 0) ∧ w'.cell? ⟨g, 26, none⟩ = some (.int .u8 (K 3)) ∧ w'.cell? ⟨g, 27, none⟩ = some (.int .u8 (W 3)) ∧ w'.cell? ⟨g, 7, none⟩ = some (.pointer none) ∧ w'.cell? ⟨g, 8, none⟩ = some (.string (T 1)) ∧ w'.cell? ⟨g, 9, none⟩ = some (.int .i32 (L 1)) ∧ w'.cell? ⟨g, 10, none⟩ = some (.int .u32 0) ∧ w'.cell? ⟨g, 11, none⟩ = some (.int .u16 0) ∧ w'.cell? ⟨g, 12, none⟩ = some (.int .u8 (K 1)) ∧ w'.cell? ⟨g, 13, none⟩ = some (.int .u8 (W 1)))
      (first | assumption | exact START.out)
      (first | (go_at_call 27; refine (equal32 _ _ _ _ _ _ _ _ _).mono ?_; rintro e_ w9 ⟨rfl, hb9⟩; have hI := STEP.out _ _ (by assumption) hb9; clear hb9; unfold SJ at hI))
    all_goals
      go_wp2_with fail
      go_meet
      exact ⟨rfl, Lib.hid (And.left (show SJ wr g 21 g 7 (T 3) (L 3) (K 3) (W 3) (T 1) (L 1) (K 1) (W 1) w9 by assumption))⟩
  case rest =>
    obtain ⟨rfl, hbc⟩ := hcut
    have TW' := Lib.hid (TW.out.below hbc.out TW.out.lt)
    have BW' := Lib.hid (BW.out.trans (hbc.out.mono BW.out.size))
    clear TW BW hbc
    have TW := TW'
    have BW := BW'
    clear TW' BW'
    obtain ⟨WW, rfl⟩ : ∃ WW : World, WW = wc := ⟨_, rfl⟩
    rw [E31.out]
    go_upto_region 3 with fail
    obtain ⟨wr, rfl⟩ : ∃ wr : World, wr = WW := ⟨_, rfl⟩
    go_cut [32] (fun s wx => s = .bool (eqT (K 2) (K 0) (T 2) (T 0)) ∧ Hid (Below wr.heap.size wr wx))
    case first =>
      have START := Lib.hid (show SJ wr g 14 g 0 (T 2) (L 2) (K 2) (W 2) (T 0) (L 0) (K 0) (W 0) wr.drew from ⟨(Below.refl _ _).drew, TW.out.lt, TW.out.lt, TW.out.cell (i := 2) (j := 0) (by omega) (by omega), TW.out.cell (i := 2) (j := 1) (by omega) (by omega), TW.out.cell (i := 2) (j := 2) (by omega) (by omega), TW.out.cell (i := 2) (j := 3) (by omega) (by omega), TW.out.cell (i := 2) (j := 4) (by omega) (by omega), TW.out.cell (i := 2) (j := 5) (by omega) (by omega), TW.out.cell (i := 2) (j := 6) (by omega) (by omega), TW.out.cell (i := 0) (j := 0) (by omega) (by omega), TW.out.cell (i := 0) (j := 1) (by omega) (by omega), TW.out.cell (i := 0) (j := 2) (by omega) (by omega), TW.out.cell (i := 0) (j := 3) (by omega) (by omega), TW.out.cell (i := 0) (j := 4) (by omega) (by omega), TW.out.cell (i := 0) (j := 5) (by omega) (by omega), TW.out.cell (i := 0) (j := 6) (by omega) (by omega)⟩)
      have STEP := Lib.hid (fun w1 w2 (hc : SJ wr g 14 g 0 (T 2) (L 2) (K 2) (W 2) (T 0) (L 0) (K 0) (W 0) w1) (hx : Below w1.heap.size w1 w2) => hc.step hx)
      go_region_held3 (fun w' => Below wr.heap.size wr w' ∧ g < wr.heap.size ∧ g < wr.heap.size ∧ w'.cell? ⟨g, 14, none⟩ = some (.pointer none) ∧ w'.cell? ⟨g, 15, none⟩ = some (.string (T 2)) ∧ w'.cell? ⟨g, 16, none⟩ = some (.int .i32 (L 2)) ∧ w'.cell? ⟨g, 17, none⟩ = some (.int .u32 0) ∧ w'.cell? ⟨g, 18, none⟩ = some (.int .u16 0) ∧ w'.cell? ⟨g, 19, none⟩ = some (.int .u8 (K 2)) ∧ w'.cell? ⟨g, 20, none⟩ = some (.int .u8 (W 2)) ∧ w'.cell? ⟨g, 0, none⟩ = some (.pointer none) ∧ w'.cell? ⟨g, 1, none⟩ = some (.string (T 0)) ∧ w'.cell? ⟨g, 2, none⟩ = some (.int .i32 (L 0)) ∧ w'.cell? ⟨g, 3, none⟩ = some (.int .u32 0) ∧ w'.cell? ⟨g, 4, none⟩ = some (.int .u16 0) ∧ w'.cell? ⟨g, 5, none⟩ = some (.int .u8 (K 0)) ∧ w'.cell? ⟨g, 6, none⟩ = some (.int .u8 (W 0)))
        (first | assumption | exact START.out)
        (first | (go_at_call 27; refine (equal32 _ _ _ _ _ _ _ _ _).mono ?_; rintro e_ w9 ⟨rfl, hb9⟩; have hI := STEP.out _ _ (by assumption) hb9; clear hb9; unfold SJ at hI))
      all_goals
        go_wp2_with fail
        go_meet
        exact ⟨rfl, Lib.hid (And.left (show SJ wr g 14 g 0 (T 2) (L 2) (K 2) (W 2) (T 0) (L 0) (K 0) (W 0) w9 by assumption))⟩
    case rest =>
      obtain ⟨rfl, hbc⟩ := hcut
      have TW' := Lib.hid (TW.out.below hbc.out TW.out.lt)
      have BW' := Lib.hid (BW.out.trans (hbc.out.mono BW.out.size))
      clear TW BW hbc
      have TW := TW'
      have BW := BW'
      clear TW' BW'
      obtain ⟨WW, rfl⟩ : ∃ WW : World, WW = wc := ⟨_, rfl⟩
      rw [E20.out]
      obtain ⟨WS, hWS⟩ : ∃ WS : Nat → Int, WS = wsv 3 mw := ⟨_, rfl⟩
      cases mw
      all_goals
        go_wp2_with fail
        go_loopw [12, 13, 48] (fun _ _ i wr => ∃ (j : Nat) (Wf : Nat → Int), j ≤ 3 ∧ i = .int .i64 j ∧ Hid (Tab wr g 47 7 4 (tc K T Wf L)) ∧ Hid (Below w.heap.size w wr) ∧ Hid (∀ a, a < j → Wf a = WS a)) (fun _ _ i _ => 3 - (intOf i).toNat)
        case atStart => exact ⟨0, W, Nat.zero_le _, rfl, TW, BW, Lib.hid (fun a ha => absurd ha (Nat.not_lt_zero a))⟩
        case round =>
          obtain ⟨j, Wf, hj, rfl, TJ, BJ, WJ⟩ := hrel
          clear TW BW
          by_cases hlt : j < 3
          · have q1 : (0 : Int) ≤ (j : Int) := by omega
            have q2 : (j : Int) < 3 := by omega
            have y6 := TJ.out.cell (i := j) (j := 6) (by omega) (by omega)
            have u6 := TJ.out.frozen (j * 7 + 6)
            have PUT := Lib.hid (fun (v : Int) => show Tab (wr.setCell ⟨g, j * 7 + 6, none⟩ (.int .u8 v)) g 47 7 4 (tc K T (fun i => if i = j then v else Wf i) L) from tab_ws TJ.out (by omega) v)
            have PB := Lib.hid (fun (v : Value) => show Below w.heap.size w (wr.setCell ⟨g, j * 7 + 6, none⟩ v) from BJ.out.setCell HG.out v)
            go_wp2_with fail
            all_goals
              go_roundw
              case rel => first | exact ⟨j + 1, _, by omega, by go_num, Lib.hid (PUT.out _), Lib.hid (PB.out _), ws_put WJ (by rw [hWS]; simp [wsv, bt1, bt2, bt3] <;> (repeat split) <;> omega)⟩ | ((repeat apply Exists.intro); exact ⟨⟨j + 1, _, by omega, by go_num, Lib.hid (PUT.out _), Lib.hid (PB.out _), ws_put WJ (by rw [hWS]; simp [wsv, bt1, bt2, bt3] <;> (repeat split) <;> omega)⟩, rfl⟩)
              case measure => simp [intOf]; omega
          · go_wp2_with fail
            go_ret
            obtain rfl : j = 3 := by omega
            exact ⟨g, Wf, rfl, tr_of TJ.out (by omega), BJ.out, fun i hi => by rw [WJ.out i hi, hWS], by have := HG.out; omega, TJ.out⟩
end Go.Proofs.YtnolnlekdlfeaaaDoor.ZT
