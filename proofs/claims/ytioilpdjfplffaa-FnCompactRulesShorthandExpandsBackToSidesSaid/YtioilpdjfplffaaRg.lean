/- zzCheckValue. Written by gen_boxg.py. -/
import Derived.Test.YtioilpdjfplffaaRf
namespace Go.Proofs.Ytioilpdjfplffaa.ZT
open Go.RowKit Go.Proofs.Ytioilpdjfplffaa.TB
set_option linter.unusedVariables false
set_option linter.unusedSimpArgs false
theorem isTok_same (c l ws : Int) (w : World) : Calls Try.prog 17 #[.agg #[.pointer none, .string (tx c), .int .i32 l, .int .u32 0, .int .u16 0, .int .u8 (kd c), .int .u8 ws], .int .u8 c] w fun e w' => e = .returned (.bool true) ∧ Below w.heap.size w w' :=
  (isTok17 (tx c) l (kd c) ws c w).mono fun e w' h => ⟨by rw [h.1]; simp [eqT], h.2⟩
theorem mc_le (q : Nat → Int) : 1 ≤ mc q ∧ mc q ≤ 4 := by
  unfold mc
  split
  · omega
  · split
    · omega
    · split <;> omega
theorem tabQ (w : World) (q : Nat → Int) : Tab (w.alloc (.cells #[.int .u8 (q 0), .int .u8 (q 1), .int .u8 (q 2), .int .u8 (q 3)] 50)) w.heap.size 50 1 4 (fun i _ => .int .u8 (q i)) := by
  refine ⟨_, Blk.new w 50 _, rfl, fun i j hi hj => ?_⟩
  obtain rfl : j = 0 := by omega
  rcases fourI hi with rfl | rfl | rfl | rfl <;> rfl
theorem tabL (w : World) (lo : Nat → Int) : Tab (w.alloc (.cells #[.int .i32 (lo 0), .int .i32 (lo 1), .int .i32 (lo 2), .int .i32 (lo 3)] 60)) w.heap.size 60 1 4 (fun i _ => .int .i32 (lo i)) := by
  refine ⟨_, Blk.new w 60 _, rfl, fun i j hi hj => ?_⟩
  obtain rfl : j = 0 := by omega
  rcases fourI hi with rfl | rfl | rfl | rfl <;> rfl
theorem tcell1 {w : World} {g n : Nat} {t : TypeId} {f : Nat → Nat → Value} (h : Tab w g t 1 n f) {i : Nat} (hi : i < n) : w.cell? ⟨g, i, none⟩ = some (f i 0) := by
  have := h.cell (i := i) (j := 0) hi (by omega)
  rw [Nat.mul_one] at this
  exact this
def VJ (nb b5 b6 m j : Nat) (q lo : Nat → Int) (mw : Bool) (wr w' : World) : Prop :=
  Below wr.heap.size wr w' ∧ nb < wr.heap.size ∧ b5 < wr.heap.size ∧ b6 < wr.heap.size ∧ w'.cell? ⟨nb, 0, none⟩ = some (.pointer none) ∧ w'.cell? ⟨nb, 1, none⟩ = some (.string (tx (q j))) ∧ w'.cell? ⟨nb, 2, none⟩ = some (.int .i32 (lo j)) ∧ w'.cell? ⟨nb, 3, none⟩ = some (.int .u32 0) ∧ w'.cell? ⟨nb, 4, none⟩ = some (.int .u16 0) ∧ w'.cell? ⟨nb, 5, none⟩ = some (.int .u8 (kd (q j))) ∧ w'.cell? ⟨nb, 6, none⟩ = some (.int .u8 (wsv m mw j)) ∧ w'.cell? ⟨b5, j, none⟩ = some (.int .u8 (q j)) ∧ w'.cell? ⟨b6, j, none⟩ = some (.int .i32 (lo j))
theorem VJ.step {nb b5 b6 m j : Nat} {q lo : Nat → Int} {mw : Bool} {wr w1 w2 : World} (h : VJ nb b5 b6 m j q lo mw wr w1) (hb : Below w1.heap.size w1 w2) : VJ nb b5 b6 m j q lo mw wr w2 := by
  obtain ⟨h0, h1, h2, h3, x0, x1, x2, x3, x4, x5, x6, y5, y6⟩ := h
  have z := h0.size
  have e1 : nb < w1.heap.size := by omega
  have e2 : b5 < w1.heap.size := by omega
  have e3 : b6 < w1.heap.size := by omega
  exact ⟨h0.trans (hb.mono h0.size), h1, h2, h3, (hb.cell e1).trans x0, (hb.cell e1).trans x1, (hb.cell e1).trans x2, (hb.cell e1).trans x3, (hb.cell e1).trans x4, (hb.cell e1).trans x5, (hb.cell e1).trans x6, (hb.cell e2).trans y5, (hb.cell e3).trans y6⟩
set_option maxRecDepth 100000 in
set_option maxHeartbeats 4000000 in
theorem check14 (tg m c : Nat) (q lo W' : Nat → Int) (mw : Bool) (w : World) (hm : m = mc q) (ht : TR w (some ⟨tg, 0, none⟩) m (tc (fun i => kd (q i)) (fun i => tx (q i)) W' lo)) (hw : ∀ i, i < m → W' i = wsv m mw i) :
    Calls Try.prog 14 #[.slice (some ⟨tg, 0, none⟩) m c, .agg #[.int .u8 (q 0), .int .u8 (q 1), .int .u8 (q 2), .int .u8 (q 3)], .agg #[.int .i32 (lo 0), .int .i32 (lo 1), .int .i32 (lo 2), .int .i32 (lo 3)], .bool mw] w fun e w' => e = .returned (.bool true) ∧ Below w.heap.size w w' := by
  have hm1 : 1 ≤ m := hm ▸ (mc_le q).1
  have hm4 : m ≤ 4 := hm ▸ (mc_le q).2
  have HM := Lib.hid hm
  have HW := Lib.hid hw
  obtain ⟨b0, o0, e0, htl, hcell⟩ := ht hm1
  injection e0 with e0
  injection e0 with e1 e2 e3
  subst e1 e2
  have TC := Lib.hid (show ∀ i j, i < m → j < 7 → w.cell? ⟨tg, 0 + i * 7 + j, none⟩ = some (tc (fun i => kd (q i)) (fun i => tx (q i)) W' lo i j) from hcell)
  clear ht hcell hm hw e3
  have BB := Lib.hid (show Below w.heap.size w ((w.alloc (.cells #[.int .u8 (q 0), .int .u8 (q 1), .int .u8 (q 2), .int .u8 (q 3)] 50)).alloc (.cells #[.int .i32 (lo 0), .int .i32 (lo 1), .int .i32 (lo 2), .int .i32 (lo 3)] 60)) from ((Below.refl _ w).alloc (Nat.le_refl _) _).alloc (by simp) _)
  have T5 := Lib.hid (show Tab ((w.alloc (.cells #[.int .u8 (q 0), .int .u8 (q 1), .int .u8 (q 2), .int .u8 (q 3)] 50)).alloc (.cells #[.int .i32 (lo 0), .int .i32 (lo 1), .int .i32 (lo 2), .int .i32 (lo 3)] 60)) w.heap.size 50 1 4 (fun i _ => .int .u8 (q i)) from (tabQ w q).alloc _)
  have T6 := Lib.hid (show Tab ((w.alloc (.cells #[.int .u8 (q 0), .int .u8 (q 1), .int .u8 (q 2), .int .u8 (q 3)] 50)).alloc (.cells #[.int .i32 (lo 0), .int .i32 (lo 1), .int .i32 (lo 2), .int .i32 (lo 3)] 60)) (w.heap.size + 1) 60 1 4 (fun i _ => .int .i32 (lo i)) from by have := tabL (w.alloc (.cells #[.int .u8 (q 0), .int .u8 (q 1), .int .u8 (q 2), .int .u8 (q 3)] 50)) lo; simpa using this)
  go_enter Try.func14, Try.ntmps14
  go_upto_region 1 with fail
  generalize (w.alloc (.cells #[.int .u8 (q 0), .int .u8 (q 1), .int .u8 (q 2), .int .u8 (q 3)] 50)).alloc (.cells #[.int .i32 (lo 0), .int .i32 (lo 1), .int .i32 (lo 2), .int .i32 (lo 3)] 60) = W0 at *
  generalize hb5 : w.heap.size = b5 at *
  have c0 : W0.cell? ⟨b5, 0, none⟩ = some (.int .u8 (q 0)) := tcell1 T5.out (i := 0) (by omega)
  have c1 : W0.cell? ⟨b5, 1, none⟩ = some (.int .u8 (q 1)) := tcell1 T5.out (i := 1) (by omega)
  have c2 : W0.cell? ⟨b5, 2, none⟩ = some (.int .u8 (q 2)) := tcell1 T5.out (i := 2) (by omega)
  have c3 : W0.cell? ⟨b5, 3, none⟩ = some (.int .u8 (q 3)) := tcell1 T5.out (i := 3) (by omega)
  go_wp2_with fail
  refine (count19 q _).mono ?_
  rintro e w3 ⟨rfl, hb3⟩
  clear c0 c1 c2 c3
  rw [← HM.out]
  have B3 := Lib.hid (BB.out.trans (hb3.mono (by rw [← hb5]; exact BB.out.size)))
  have T5' := Lib.hid (T5.out.below hb3 T5.out.lt)
  have T6' := Lib.hid (T6.out.below hb3 T6.out.lt)
  clear hb3 T5 T6 BB
  go_wp2_with fail
  go_loopw [10, 11] (fun i _ wr => ∃ j : Nat, j ≤ m ∧ i = .int .i64 j ∧ Hid (Below w3.heap.size w3 wr)) (fun i _ _ => m - (intOf i).toNat)
  case atStart => exact ⟨0, by omega, rfl, Lib.hid (Below.refl _ _)⟩
  case round =>
    obtain ⟨j, hj, rfl, RB⟩ := hrel
    by_cases hlt : j < m
    · have hq5 : Tab wr b5 50 1 4 (fun i _ => .int .u8 (q i)) := T5'.out.below RB.out T5'.out.lt
      have hq6 : Tab wr (b5 + 1) 60 1 4 (fun i _ => .int .i32 (lo i)) := T6'.out.below RB.out T6'.out.lt
      have Q5 := Lib.hid hq5
      have Q6 := Lib.hid hq6
      clear hq5 hq6
      have BW := Lib.hid (B3.out.trans (RB.out.mono (by rw [← hb5]; exact B3.out.size)))
      have htl2 : tg < wr.heap.size := by have := BW.out.size; omega
      have HT := Lib.hid (fun (a : Nat) (ha : a < 7) => show wr.cell? ⟨tg, j * 7 + a, none⟩ = some (tc (fun i => kd (q i)) (fun i => tx (q i)) W' lo j a) from by
        have e1 := TC.out j a hlt ha
        rw [Nat.zero_add] at e1
        rw [← e1]
        exact BW.out.cell (p := ⟨tg, j * 7 + a, none⟩) (by show tg < _; omega))
      have x0 : wr.cell? ⟨tg, j * 7, none⟩ = some (.pointer none) := HT.out 0 (by omega)
      have x1 : wr.cell? ⟨tg, j * 7 + 1, none⟩ = some (.string (tx (q j))) := HT.out 1 (by omega)
      have x2 : wr.cell? ⟨tg, j * 7 + 2, none⟩ = some (.int .i32 (lo j)) := HT.out 2 (by omega)
      have x3 : wr.cell? ⟨tg, j * 7 + 3, none⟩ = some (.int .u32 0) := HT.out 3 (by omega)
      have x4 : wr.cell? ⟨tg, j * 7 + 4, none⟩ = some (.int .u16 0) := HT.out 4 (by omega)
      have x5 : wr.cell? ⟨tg, j * 7 + 5, none⟩ = some (.int .u8 (kd (q j))) := HT.out 5 (by omega)
      have x6 : wr.cell? ⟨tg, j * 7 + 6, none⟩ = some (.int .u8 (wsv m mw j)) := by rw [← HW.out j hlt]; exact HT.out 6 (by omega)
      have q1 : (0 : Int) ≤ (j : Int) := by omega
      have q2 : (j : Int) < (m : Int) := by omega
      have q3 : (j : Int) < 4 := by omega
      have ne : ¬ tg = wr.heap.size := by omega
      have ne2 : ¬ wr.heap.size = tg := by omega
      go_upto_region 8 with fail
      clear x0 x1 x2 x3 x4 x5 x6 HT
      have CB := Lib.hid (show Blk (wr.alloc (.cells #[.pointer none, .string (tx (q j)), .int .i32 (lo j), .int .u32 0, .int .u16 0, .int .u8 (kd (q j)), .int .u8 (wsv m mw j)] 38)) wr.heap.size 38 #[.pointer none, .string (tx (q j)), .int .i32 (lo j), .int .u32 0, .int .u16 0, .int .u8 (kd (q j)), .int .u8 (wsv m mw j)] from Blk.new wr 38 _)
      have CR := Lib.hid (show Below w3.heap.size w3 (wr.alloc (.cells #[.pointer none, .string (tx (q j)), .int .i32 (lo j), .int .u32 0, .int .u16 0, .int .u8 (kd (q j)), .int .u8 (wsv m mw j)] 38)) from RB.out.alloc RB.out.size _)
      have Q5' := Lib.hid (Q5.out.alloc (.cells #[.pointer none, .string (tx (q j)), .int .i32 (lo j), .int .u32 0, .int .u16 0, .int .u8 (kd (q j)), .int .u8 (wsv m mw j)] 38))
      have Q6' := Lib.hid (Q6.out.alloc (.cells #[.pointer none, .string (tx (q j)), .int .i32 (lo j), .int .u32 0, .int .u16 0, .int .u8 (kd (q j)), .int .u8 (wsv m mw j)] 38))
      have hcb : wr.heap.size < (wr.alloc (.cells #[.pointer none, .string (tx (q j)), .int .i32 (lo j), .int .u32 0, .int .u16 0, .int .u8 (kd (q j)), .int .u8 (wsv m mw j)] 38)).heap.size := by simp
      clear Q5 Q6 RB BW ne ne2 htl2
      generalize wr.alloc (.cells #[.pointer none, .string (tx (q j)), .int .i32 (lo j), .int .u32 0, .int .u16 0, .int .u8 (kd (q j)), .int .u8 (wsv m mw j)] 38) = W1 at *
      generalize wr.heap.size = nb at *
      go_cut [50] (fun s wx => s = .bool false ∧ Hid (Below W1.heap.size W1 wx))
      case first =>
        have START := Lib.hid (show VJ nb b5 (b5 + 1) m j q lo mw W1 W1.drew from ⟨(Below.refl _ _).drew, hcb, Q5'.out.lt, Q6'.out.lt, CB.out.cell 0, CB.out.cell 1, CB.out.cell 2, CB.out.cell 3, CB.out.cell 4, CB.out.cell 5, CB.out.cell 6, tcell1 Q5'.out (i := j) (by omega), tcell1 Q6'.out (i := j) (by omega)⟩)
        have STEP := Lib.hid (fun w1 w2 (h : VJ nb b5 (b5 + 1) m j q lo mw W1 w1) (hb : Below w1.heap.size w1 w2) => h.step hb)
        go_region_held3 (fun w' => Below W1.heap.size W1 w' ∧ nb < W1.heap.size ∧ b5 < W1.heap.size ∧ b5 + 1 < W1.heap.size ∧ w'.cell? ⟨nb, 0, none⟩ = some (.pointer none) ∧ w'.cell? ⟨nb, 1, none⟩ = some (.string (tx (q j))) ∧ w'.cell? ⟨nb, 2, none⟩ = some (.int .i32 (lo j)) ∧ w'.cell? ⟨nb, 3, none⟩ = some (.int .u32 0) ∧ w'.cell? ⟨nb, 4, none⟩ = some (.int .u16 0) ∧ w'.cell? ⟨nb, 5, none⟩ = some (.int .u8 (kd (q j))) ∧ w'.cell? ⟨nb, 6, none⟩ = some (.int .u8 (wsv m mw j)) ∧ w'.cell? ⟨b5, j, none⟩ = some (.int .u8 (q j)) ∧ w'.cell? ⟨b5 + 1, j, none⟩ = some (.int .i32 (lo j)))
          (first | assumption | exact START.out)
          (first
            | (go_at_call 17; refine (isTok_same _ _ _ _).mono ?_; rintro e_ w9 ⟨rfl, hb9⟩; have hI := STEP.out _ _ (by assumption) hb9; clear hb9; unfold VJ at hI)
            | (go_at_call 20; refine (want20 j m mw _ (by omega) hm4).mono ?_; rintro e_ w9 ⟨rfl, hb9⟩; have hI := STEP.out _ _ (by assumption) hb9; clear hb9; unfold VJ at hI))
        all_goals
          go_wp2_with fail
          go_meet
          exact ⟨rfl, Lib.hid (And.left (show VJ nb b5 (b5 + 1) m j q lo mw W1 _ by assumption))⟩
      case rest =>
        obtain ⟨rfl, hbc⟩ := hcut
        have RB2 := Lib.hid (CR.out.trans (hbc.out.mono CR.out.size))
        clear hbc CR CB Q5' Q6'
        go_wp2_with fail
        go_roundw
        case rel => exact ⟨j + 1, by omega, by go_num, RB2⟩
        case measure => simp [intOf]; omega
    · obtain rfl : j = m := by omega
      go_wp2_with fail
      go_ret
      exact ⟨rfl, by rw [hb5]; exact B3.out.trans (RB.out.mono (by rw [← hb5]; exact B3.out.size))⟩
end Go.Proofs.Ytioilpdjfplffaa.ZT
