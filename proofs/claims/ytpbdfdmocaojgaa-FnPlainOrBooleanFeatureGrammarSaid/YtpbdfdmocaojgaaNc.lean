/- scanMediaValue at the tokens behind the colon. Printed by gen_nc.py. -/
import Derived.Test.YtpbdfdmocaojgaaNb
namespace Go.Proofs.Ytpbdfdmocaojgaa.MA
open Go.RowKit Go.Proofs.Ytpbdfdmocaojgaa.TB
set_option linter.unusedVariables false
def ScanVP (g L v : Nat) (K : Nat → Int) (T : Nat → ByteArray) (W' : Nat → Int) (w : World) (e : Ending) (w' : World) : Prop :=
  ∃ X Y, e = .returned (.tuple #[.slice (some ⟨g, 14, none⟩) v L, .slice X (L - v) Y]) ∧ Tab w' g 53 7 (L + 2) (tc K T W') ∧ Below g w w'
def w1 (W : Nat → Int) : Nat → Int := fun i => if i = 2 then bits .and .u8 (bits .and .u8 (W 2) 254) 253 else W i
def w3 (W : Nat → Int) : Nat → Int := fun i => if i = 2 then bits .and .u8 (W 2) 254 else if i = 4 then bits .and .u8 (W 4) 253 else W i
theorem below_drewG {B : Nat} {a w : World} (h : Below B a w) (n : Nat) : Below B a (w.drewN n) := ⟨h.os, h.tape, h.output, h.size, h.block⟩
theorem bel2 (g o1 o2 : Nat) (x y : Value) (w : World) : Below g w ((w.setCell ⟨g, o1, none⟩ x).setCell ⟨g, o2, none⟩ y) := ((Below.refl g w).setCell (Nat.le_refl g) _).setCell (Nat.le_refl g) _
theorem trim1 {w : World} {g n : Nat} {K : Nat → Int} {T : Nat → ByteArray} {W : Nat → Int} (h : Tab w g 53 7 n (tc K T W)) (hn : 3 ≤ n) :
    Tab ((w.setCell ⟨g, 20, none⟩ (.int .u8 (bits .and .u8 (W 2) 254))).setCell ⟨g, 20, none⟩ (.int .u8 (bits .and .u8 (bits .and .u8 (W 2) 254) 253))) g 53 7 n (tc K T (w1 W)) := by
  have h1 := h.set (i := 2) (j := 6) (by omega) (by omega) (.int .u8 (bits .and .u8 (W 2) 254))
  have h2 := h1.set (i := 2) (j := 6) (by omega) (by omega) (.int .u8 (bits .and .u8 (bits .and .u8 (W 2) 254) 253))
  refine Tab.ext h2 fun i j hi hj => ?_
  by_cases e : i = 2
  · subst e
    rcases seven hj with rfl | rfl | rfl | rfl | rfl | rfl | rfl <;> simp [upd, tc, w1]
  · simp [upd, e, tc, w1]
theorem trim3 {w : World} {g n : Nat} {K : Nat → Int} {T : Nat → ByteArray} {W : Nat → Int} (h : Tab w g 53 7 n (tc K T W)) (hn : 5 ≤ n) :
    Tab ((w.setCell ⟨g, 20, none⟩ (.int .u8 (bits .and .u8 (W 2) 254))).setCell ⟨g, 34, none⟩ (.int .u8 (bits .and .u8 (W 4) 253))) g 53 7 n (tc K T (w3 W)) := by
  have h1 := h.set (i := 2) (j := 6) (by omega) (by omega) (.int .u8 (bits .and .u8 (W 2) 254))
  have h2 := h1.set (i := 4) (j := 6) (by omega) (by omega) (.int .u8 (bits .and .u8 (W 4) 253))
  refine Tab.ext h2 fun i j hi hj => ?_
  by_cases e : i = 2
  · subst e
    rcases seven hj with rfl | rfl | rfl | rfl | rfl | rfl | rfl <;> simp [upd, tc, w3]
  · by_cases e4 : i = 4
    · subst e4
      rcases seven hj with rfl | rfl | rfl | rfl | rfl | rfl | rfl <;> simp [upd, tc, w3]
    · simp [upd, e, e4, tc, w3]
set_option maxRecDepth 100000 in
set_option maxHeartbeats 1000000 in
theorem sc0 (g : Nat) (L : Nat) (K : Nat → Int) (T : Nat → ByteArray) (W : Nat → Int) (w : World) (h : Tab w g 53 7 (L + 2) (tc K T W)) (hL : 1 ≤ L) (hM : L ≤ 1048576) (a : (K 2 == 26) = false) (b : (K 2 == 29) = false) (d : (K 2 == 30) = false) :
    Calls Try.prog 23 #[.slice (some ⟨g, 14, none⟩) L L] w (ScanVP g L 0 K T (W) w) := by
  have TT := Lib.hid h
  have x19 : w.cell? ⟨g, 19, none⟩ = some (.int .u8 (K 2)) := h.cell (i := 2) (by omega) (j := 5) (by omega)
  clear h
  have q1 : (1 : Int) ≤ (L : Int) := by omega
  have q0 : (0 : Int) < (L : Int) := by omega
  have q5 : ¬ L = 0 := by omega
  have q6 : ¬ 0 = L := by omega
  go_enter Try.func23, Try.ntmps23
  go_wp2
  go_quiet (fail)
  go_wp2
  go_ret2
  exact ⟨_, _, rfl, TT.out.drewN _, below_drewG (Below.refl _ _) _⟩
set_option maxRecDepth 100000 in
set_option maxHeartbeats 1000000 in
theorem sc1d (g : Nat) (L : Nat) (K : Nat → Int) (T : Nat → ByteArray) (W : Nat → Int) (w : World) (h : Tab w g 53 7 (L + 2) (tc K T W)) (hL : 2 ≤ L) (hM : L ≤ 1048576) (a : (K 2 == 26) = true) :
    Calls Try.prog 23 #[.slice (some ⟨g, 14, none⟩) L L] w (ScanVP g L 1 K T (w1 W) w) := by
  have TT := Lib.hid h
  have x19 : w.cell? ⟨g, 19, none⟩ = some (.int .u8 (K 2)) := h.cell (i := 2) (by omega) (j := 5) (by omega)
  have x20 : w.cell? ⟨g, 20, none⟩ = some (.int .u8 (W 2)) := h.cell (i := 2) (by omega) (j := 6) (by omega)
  have f20 := h.frozen 20
  clear h
  have q1 : (1 : Int) ≤ (L : Int) := by omega
  have q0 : (0 : Int) < (L : Int) := by omega
  have q5 : ¬ L = 1 := by omega
  have q6 : ¬ 1 = L := by omega
  go_enter Try.func23, Try.ntmps23
  go_wp2
  go_quiet (fail)
  go_wp2
  go_ret2
  exact ⟨_, _, rfl, (trim1 TT.out (by omega)).drewN _, below_drewG (bel2 _ _ _ _ _ _) _⟩
set_option maxRecDepth 100000 in
set_option maxHeartbeats 1000000 in
theorem sc1d1 (g : Nat) (K : Nat → Int) (T : Nat → ByteArray) (W : Nat → Int) (w : World) (h : Tab w g 53 7 (1 + 2) (tc K T W)) (a : (K 2 == 26) = true) :
    Calls Try.prog 23 #[.slice (some ⟨g, 14, none⟩) 1 1] w (ScanVP g 1 1 K T (w1 W) w) := by
  have TT := Lib.hid h
  have x19 : w.cell? ⟨g, 19, none⟩ = some (.int .u8 (K 2)) := h.cell (i := 2) (by omega) (j := 5) (by omega)
  have x20 : w.cell? ⟨g, 20, none⟩ = some (.int .u8 (W 2)) := h.cell (i := 2) (by omega) (j := 6) (by omega)
  have f20 := h.frozen 20
  clear h
  go_enter Try.func23, Try.ntmps23
  go_wp2
  go_quiet (fail)
  go_wp2
  go_ret2
  exact ⟨_, _, rfl, (trim1 TT.out (by omega)).drewN _, below_drewG (bel2 _ _ _ _ _ _) _⟩
set_option maxRecDepth 100000 in
set_option maxHeartbeats 1000000 in
theorem sc1i (g : Nat) (L : Nat) (K : Nat → Int) (T : Nat → ByteArray) (W : Nat → Int) (w : World) (h : Tab w g 53 7 (L + 2) (tc K T W)) (hL : 2 ≤ L) (hM : L ≤ 1048576) (a : (K 2 == 26) = false) (b : (K 2 == 29) = true) :
    Calls Try.prog 23 #[.slice (some ⟨g, 14, none⟩) L L] w (ScanVP g L 1 K T (w1 W) w) := by
  have TT := Lib.hid h
  have x19 : w.cell? ⟨g, 19, none⟩ = some (.int .u8 (K 2)) := h.cell (i := 2) (by omega) (j := 5) (by omega)
  have x20 : w.cell? ⟨g, 20, none⟩ = some (.int .u8 (W 2)) := h.cell (i := 2) (by omega) (j := 6) (by omega)
  have f20 := h.frozen 20
  clear h
  have q1 : (1 : Int) ≤ (L : Int) := by omega
  have q0 : (0 : Int) < (L : Int) := by omega
  have q5 : ¬ L = 1 := by omega
  have q6 : ¬ 1 = L := by omega
  go_enter Try.func23, Try.ntmps23
  go_wp2
  go_quiet (fail)
  go_wp2
  go_ret2
  exact ⟨_, _, rfl, (trim1 TT.out (by omega)).drewN _, below_drewG (bel2 _ _ _ _ _ _) _⟩
set_option maxRecDepth 100000 in
set_option maxHeartbeats 1000000 in
theorem sc1i1 (g : Nat) (K : Nat → Int) (T : Nat → ByteArray) (W : Nat → Int) (w : World) (h : Tab w g 53 7 (1 + 2) (tc K T W)) (a : (K 2 == 26) = false) (b : (K 2 == 29) = true) :
    Calls Try.prog 23 #[.slice (some ⟨g, 14, none⟩) 1 1] w (ScanVP g 1 1 K T (w1 W) w) := by
  have TT := Lib.hid h
  have x19 : w.cell? ⟨g, 19, none⟩ = some (.int .u8 (K 2)) := h.cell (i := 2) (by omega) (j := 5) (by omega)
  have x20 : w.cell? ⟨g, 20, none⟩ = some (.int .u8 (W 2)) := h.cell (i := 2) (by omega) (j := 6) (by omega)
  have f20 := h.frozen 20
  clear h
  go_enter Try.func23, Try.ntmps23
  go_wp2
  go_quiet (fail)
  go_wp2
  go_ret2
  exact ⟨_, _, rfl, (trim1 TT.out (by omega)).drewN _, below_drewG (bel2 _ _ _ _ _ _) _⟩
set_option maxRecDepth 100000 in
set_option maxHeartbeats 1000000 in
theorem sc1n1 (g : Nat) (K : Nat → Int) (T : Nat → ByteArray) (W : Nat → Int) (w : World) (h : Tab w g 53 7 (1 + 2) (tc K T W)) (a : (K 2 == 26) = false) (b : (K 2 == 29) = false) (d : (K 2 == 30) = true) :
    Calls Try.prog 23 #[.slice (some ⟨g, 14, none⟩) 1 1] w (ScanVP g 1 1 K T (w1 W) w) := by
  have TT := Lib.hid h
  have x19 : w.cell? ⟨g, 19, none⟩ = some (.int .u8 (K 2)) := h.cell (i := 2) (by omega) (j := 5) (by omega)
  have x20 : w.cell? ⟨g, 20, none⟩ = some (.int .u8 (W 2)) := h.cell (i := 2) (by omega) (j := 6) (by omega)
  have f20 := h.frozen 20
  clear h
  go_enter Try.func23, Try.ntmps23
  go_wp2
  go_quiet (fail)
  go_wp2
  go_ret2
  exact ⟨_, _, rfl, (trim1 TT.out (by omega)).drewN _, below_drewG (bel2 _ _ _ _ _ _) _⟩
set_option maxRecDepth 100000 in
set_option maxHeartbeats 1000000 in
theorem sc1n2 (g : Nat) (K : Nat → Int) (T : Nat → ByteArray) (W : Nat → Int) (w : World) (h : Tab w g 53 7 (2 + 2) (tc K T W)) (a : (K 2 == 26) = false) (b : (K 2 == 29) = false) (d : (K 2 == 30) = true) :
    Calls Try.prog 23 #[.slice (some ⟨g, 14, none⟩) 2 2] w (ScanVP g 2 1 K T (w1 W) w) := by
  have TT := Lib.hid h
  have x19 : w.cell? ⟨g, 19, none⟩ = some (.int .u8 (K 2)) := h.cell (i := 2) (by omega) (j := 5) (by omega)
  have x20 : w.cell? ⟨g, 20, none⟩ = some (.int .u8 (W 2)) := h.cell (i := 2) (by omega) (j := 6) (by omega)
  have f20 := h.frozen 20
  clear h
  go_enter Try.func23, Try.ntmps23
  go_wp2
  go_quiet (fail)
  go_wp2
  go_ret2
  exact ⟨_, _, rfl, (trim1 TT.out (by omega)).drewN _, below_drewG (bel2 _ _ _ _ _ _) _⟩
set_option maxRecDepth 100000 in
set_option maxHeartbeats 1000000 in
theorem sc1na (g : Nat) (L : Nat) (K : Nat → Int) (T : Nat → ByteArray) (W : Nat → Int) (w : World) (h : Tab w g 53 7 (L + 2) (tc K T W)) (hL : 3 ≤ L) (hM : L ≤ 1048576) (a : (K 2 == 26) = false) (b : (K 2 == 29) = false) (d : (K 2 == 30) = true) (x : (K 3 == 24) = false) :
    Calls Try.prog 23 #[.slice (some ⟨g, 14, none⟩) L L] w (ScanVP g L 1 K T (w1 W) w) := by
  have TT := Lib.hid h
  have x19 : w.cell? ⟨g, 19, none⟩ = some (.int .u8 (K 2)) := h.cell (i := 2) (by omega) (j := 5) (by omega)
  have x26 : w.cell? ⟨g, 26, none⟩ = some (.int .u8 (K 3)) := h.cell (i := 3) (by omega) (j := 5) (by omega)
  have x33 : w.cell? ⟨g, 33, none⟩ = some (.int .u8 (K 4)) := h.cell (i := 4) (by omega) (j := 5) (by omega)
  have x20 : w.cell? ⟨g, 20, none⟩ = some (.int .u8 (W 2)) := h.cell (i := 2) (by omega) (j := 6) (by omega)
  have f20 := h.frozen 20
  clear h
  have q1 : (1 : Int) ≤ (L : Int) := by omega
  have q0 : (0 : Int) < (L : Int) := by omega
  have q3 : (3 : Int) ≤ (L : Int) := by omega
  have q2 : (2 : Int) < (L : Int) := by omega
  have q4 : decide ((3 : Int) ≤ (L : Int)) = true := by rw [decide_eq_true_eq]; omega
  have q5 : ¬ L = 1 := by omega
  have q6 : ¬ 1 = L := by omega
  have q7 : (1 : Int) < (L : Int) := by omega
  go_enter Try.func23, Try.ntmps23
  go_wp2
  go_quiet (fail)
  go_wp2
  go_ret2
  exact ⟨_, _, rfl, (trim1 TT.out (by omega)).drewN _, below_drewG (bel2 _ _ _ _ _ _) _⟩
set_option maxRecDepth 100000 in
set_option maxHeartbeats 1000000 in
theorem sc1nb (g : Nat) (L : Nat) (K : Nat → Int) (T : Nat → ByteArray) (W : Nat → Int) (w : World) (h : Tab w g 53 7 (L + 2) (tc K T W)) (hL : 3 ≤ L) (hM : L ≤ 1048576) (a : (K 2 == 26) = false) (b : (K 2 == 29) = false) (d : (K 2 == 30) = true) (x : (K 3 == 24) = true) (y : (K 4 == 30) = false) :
    Calls Try.prog 23 #[.slice (some ⟨g, 14, none⟩) L L] w (ScanVP g L 1 K T (w1 W) w) := by
  have TT := Lib.hid h
  have x19 : w.cell? ⟨g, 19, none⟩ = some (.int .u8 (K 2)) := h.cell (i := 2) (by omega) (j := 5) (by omega)
  have x26 : w.cell? ⟨g, 26, none⟩ = some (.int .u8 (K 3)) := h.cell (i := 3) (by omega) (j := 5) (by omega)
  have x33 : w.cell? ⟨g, 33, none⟩ = some (.int .u8 (K 4)) := h.cell (i := 4) (by omega) (j := 5) (by omega)
  have x20 : w.cell? ⟨g, 20, none⟩ = some (.int .u8 (W 2)) := h.cell (i := 2) (by omega) (j := 6) (by omega)
  have f20 := h.frozen 20
  clear h
  have q1 : (1 : Int) ≤ (L : Int) := by omega
  have q0 : (0 : Int) < (L : Int) := by omega
  have q3 : (3 : Int) ≤ (L : Int) := by omega
  have q2 : (2 : Int) < (L : Int) := by omega
  have q4 : decide ((3 : Int) ≤ (L : Int)) = true := by rw [decide_eq_true_eq]; omega
  have q5 : ¬ L = 1 := by omega
  have q6 : ¬ 1 = L := by omega
  have q7 : (1 : Int) < (L : Int) := by omega
  go_enter Try.func23, Try.ntmps23
  go_wp2
  go_quiet (fail)
  go_wp2
  go_ret2
  exact ⟨_, _, rfl, (trim1 TT.out (by omega)).drewN _, below_drewG (bel2 _ _ _ _ _ _) _⟩
set_option maxRecDepth 100000 in
set_option maxHeartbeats 1000000 in
theorem sc3 (g : Nat) (L : Nat) (K : Nat → Int) (T : Nat → ByteArray) (W : Nat → Int) (w : World) (h : Tab w g 53 7 (L + 2) (tc K T W)) (hL : 4 ≤ L) (hM : L ≤ 1048576) (a : (K 2 == 26) = false) (b : (K 2 == 29) = false) (d : (K 2 == 30) = true) (x : (K 3 == 24) = true) (y : (K 4 == 30) = true) :
    Calls Try.prog 23 #[.slice (some ⟨g, 14, none⟩) L L] w (ScanVP g L 3 K T (w3 W) w) := by
  have TT := Lib.hid h
  have x19 : w.cell? ⟨g, 19, none⟩ = some (.int .u8 (K 2)) := h.cell (i := 2) (by omega) (j := 5) (by omega)
  have x26 : w.cell? ⟨g, 26, none⟩ = some (.int .u8 (K 3)) := h.cell (i := 3) (by omega) (j := 5) (by omega)
  have x33 : w.cell? ⟨g, 33, none⟩ = some (.int .u8 (K 4)) := h.cell (i := 4) (by omega) (j := 5) (by omega)
  have x20 : w.cell? ⟨g, 20, none⟩ = some (.int .u8 (W 2)) := h.cell (i := 2) (by omega) (j := 6) (by omega)
  have f20 := h.frozen 20
  have x34 : w.cell? ⟨g, 34, none⟩ = some (.int .u8 (W 4)) := h.cell (i := 4) (by omega) (j := 6) (by omega)
  have f34 := h.frozen 34
  clear h
  have q1 : (1 : Int) ≤ (L : Int) := by omega
  have q0 : (0 : Int) < (L : Int) := by omega
  have q3 : (3 : Int) ≤ (L : Int) := by omega
  have q2 : (2 : Int) < (L : Int) := by omega
  have q4 : decide ((3 : Int) ≤ (L : Int)) = true := by rw [decide_eq_true_eq]; omega
  have q5 : ¬ L = 3 := by omega
  have q6 : ¬ 3 = L := by omega
  have q7 : (1 : Int) < (L : Int) := by omega
  go_enter Try.func23, Try.ntmps23
  go_wp2
  go_quiet (fail)
  go_wp2
  go_ret2
  exact ⟨_, _, rfl, (trim3 TT.out (by omega)).drewN _, below_drewG (bel2 _ _ _ _ _ _) _⟩
set_option maxRecDepth 100000 in
set_option maxHeartbeats 1000000 in
theorem sc33 (g : Nat) (K : Nat → Int) (T : Nat → ByteArray) (W : Nat → Int) (w : World) (h : Tab w g 53 7 (3 + 2) (tc K T W)) (a : (K 2 == 26) = false) (b : (K 2 == 29) = false) (d : (K 2 == 30) = true) (x : (K 3 == 24) = true) (y : (K 4 == 30) = true) :
    Calls Try.prog 23 #[.slice (some ⟨g, 14, none⟩) 3 3] w (ScanVP g 3 3 K T (w3 W) w) := by
  have TT := Lib.hid h
  have x19 : w.cell? ⟨g, 19, none⟩ = some (.int .u8 (K 2)) := h.cell (i := 2) (by omega) (j := 5) (by omega)
  have x26 : w.cell? ⟨g, 26, none⟩ = some (.int .u8 (K 3)) := h.cell (i := 3) (by omega) (j := 5) (by omega)
  have x33 : w.cell? ⟨g, 33, none⟩ = some (.int .u8 (K 4)) := h.cell (i := 4) (by omega) (j := 5) (by omega)
  have x20 : w.cell? ⟨g, 20, none⟩ = some (.int .u8 (W 2)) := h.cell (i := 2) (by omega) (j := 6) (by omega)
  have f20 := h.frozen 20
  have x34 : w.cell? ⟨g, 34, none⟩ = some (.int .u8 (W 4)) := h.cell (i := 4) (by omega) (j := 6) (by omega)
  have f34 := h.frozen 34
  clear h
  go_enter Try.func23, Try.ntmps23
  go_wp2
  go_quiet (fail)
  go_wp2
  go_ret2
  exact ⟨_, _, rfl, (trim3 TT.out (by omega)).drewN _, below_drewG (bel2 _ _ _ _ _ _) _⟩
end Go.Proofs.Ytpbdfdmocaojgaa.MA
