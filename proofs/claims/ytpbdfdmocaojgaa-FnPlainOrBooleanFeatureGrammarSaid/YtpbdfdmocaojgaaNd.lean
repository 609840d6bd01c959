/- parsePlainOrBooleanMediaFeature and zzFeatureShape. Printed by gen_nd.py. -/
import Derived.Test.YtpbdfdmocaojgaaNc
namespace Go.Proofs.Ytpbdfdmocaojgaa.MA
open Go.RowKit Go.Proofs.Ytpbdfdmocaojgaa.TB
set_option linter.unusedVariables false
/-- Refused. -/
def NoP (g : Nat) (w : World) (e : Ending) (w' : World) : Prop := e = .returned (.tuple #[.pointer none, .bool false]) ∧ Below g w w'
/-- Accepted, with the value v; the tokens are those of f'. -/
def YesP (g n : Nat) (t : ByteArray) (v : Value) (f' : Nat → Nat → Value) (w : World) (e : Ending) (w' : World) : Prop :=
  ∃ gp, e = .returned (.tuple #[.pointer (some ⟨gp, 0, none⟩), .bool true]) ∧ Blk w' gp 45 #[.string t, v] ∧ Tab w' g 53 7 n f' ∧ Below g w w'
theorem below_le {B C : Nat} {w w' : World} (h : Below B w w') (hc : C ≤ B) : Below C w w' := h.mono hc
set_option maxRecDepth 100000 in
set_option maxHeartbeats 1000000 in
theorem p_0 (A : Option Addr) (c g : Nat) (w : World)  :
    Calls Try.prog 22 #[.slice A 0 c] w (NoP g w) := by
  go_enter Try.func22, Try.ntmps22
  go_wp2_with fail
  go_ret2
  exact ⟨rfl, Below.refl _ _⟩
set_option maxRecDepth 100000 in
set_option maxHeartbeats 1000000 in
theorem p_1n (g : Nat) (K : Nat → Int) (T : Nat → ByteArray) (W : Nat → Int) (w : World) (h : Tab w g 53 7 1 (tc K T W)) (a : (K 0 == 29) = false) :
    Calls Try.prog 22 #[.slice (some ⟨g, 0, none⟩) 1 1] w (NoP g w) := by
  have x5 : w.cell? ⟨g, 5, none⟩ = some (.int .u8 (K 0)) := h.cell (i := 0) (by omega) (j := 5) (by omega)
  clear h
  go_enter Try.func22, Try.ntmps22
  go_wp2_with fail
  go_ret2
  exact ⟨rfl, Below.refl _ _⟩
set_option maxRecDepth 100000 in
set_option maxHeartbeats 1000000 in
theorem p_1y (g : Nat) (K : Nat → Int) (T : Nat → ByteArray) (W : Nat → Int) (w : World) (h : Tab w g 53 7 1 (tc K T W)) (a : (K 0 == 29) = true) :
    Calls Try.prog 22 #[.slice (some ⟨g, 0, none⟩) 1 1] w (YesP g 1 (T 0) (.slice none 0 0) (tc K T W) w) := by
  have TT := Lib.hid h
  have x5 : w.cell? ⟨g, 5, none⟩ = some (.int .u8 (K 0)) := h.cell (i := 0) (by omega) (j := 5) (by omega)
  have x1 : w.cell? ⟨g, 1, none⟩ = some (.string (T 0)) := h.cell (i := 0) (by omega) (j := 1) (by omega)
  clear h
  go_enter Try.func22, Try.ntmps22
  go_wp2_with fail
  go_ret2
  exact ⟨w.heap.size, rfl, Blk.new' rfl, TT.out.alloc _, below_le ((Below.refl _ _).alloc (Nat.le_refl _) _) (Nat.le_of_lt TT.out.lt)⟩
set_option maxRecDepth 100000 in
set_option maxHeartbeats 1000000 in
theorem p_2 (g : Nat) (K : Nat → Int) (T : Nat → ByteArray) (W : Nat → Int) (w : World) (h : Tab w g 53 7 2 (tc K T W)) :
    Calls Try.prog 22 #[.slice (some ⟨g, 0, none⟩) 2 2] w (NoP g w) := by
  clear h
  go_enter Try.func22, Try.ntmps22
  go_wp2_with fail
  go_ret2
  exact ⟨rfl, Below.refl _ _⟩
set_option maxRecDepth 100000 in
set_option maxHeartbeats 1000000 in
theorem p_k0 (g L : Nat) (K : Nat → Int) (T : Nat → ByteArray) (W : Nat → Int) (w : World) (h : Tab w g 53 7 (L + 2) (tc K T W)) (hL : 1 ≤ L) (hM : L ≤ 1048576) (a : (K 0 == 29) = false) :
    Calls Try.prog 22 #[.slice (some ⟨g, 0, none⟩) (L + 2) (L + 2)] w (NoP g w) := by
  have x5 : w.cell? ⟨g, 5, none⟩ = some (.int .u8 (K 0)) := h.cell (i := 0) (by omega) (j := 5) (by omega)
  clear h
  have q1 : (((L + 2 : Nat) : Int) == 1) = false := by rw [beq_eq_false_iff_ne]; omega
  have q1' : ((L : Int) + 2 == 1) = false := by rw [beq_eq_false_iff_ne]; omega
  have q2 : decide ((3 : Int) ≤ ((L + 2 : Nat) : Int)) = true := by rw [decide_eq_true_eq]; omega
  have q2' : decide ((3 : Int) ≤ (L : Int) + 2) = true := by rw [decide_eq_true_eq]; omega
  have q3 : (0 : Int) < (L : Int) + 2 := by omega
  have q4 : (1 : Int) < (L : Int) + 2 := by omega
  have q5 : ¬ L + 2 = 2 := by omega
  have q6 : ¬ L = 0 := by omega
  have q7 : (2 : Int) ≤ (L : Int) + 2 := by omega
  go_enter Try.func22, Try.ntmps22
  go_wp2_with fail
  go_ret2
  exact ⟨rfl, Below.refl _ _⟩
set_option maxRecDepth 100000 in
set_option maxHeartbeats 1000000 in
theorem p_k1 (g L : Nat) (K : Nat → Int) (T : Nat → ByteArray) (W : Nat → Int) (w : World) (h : Tab w g 53 7 (L + 2) (tc K T W)) (hL : 1 ≤ L) (hM : L ≤ 1048576) (a : (K 0 == 29) = true) (b : (K 1 == 9) = false) :
    Calls Try.prog 22 #[.slice (some ⟨g, 0, none⟩) (L + 2) (L + 2)] w (NoP g w) := by
  have x5 : w.cell? ⟨g, 5, none⟩ = some (.int .u8 (K 0)) := h.cell (i := 0) (by omega) (j := 5) (by omega)
  have x12 : w.cell? ⟨g, 12, none⟩ = some (.int .u8 (K 1)) := h.cell (i := 1) (by omega) (j := 5) (by omega)
  clear h
  have q1 : (((L + 2 : Nat) : Int) == 1) = false := by rw [beq_eq_false_iff_ne]; omega
  have q1' : ((L : Int) + 2 == 1) = false := by rw [beq_eq_false_iff_ne]; omega
  have q2 : decide ((3 : Int) ≤ ((L + 2 : Nat) : Int)) = true := by rw [decide_eq_true_eq]; omega
  have q2' : decide ((3 : Int) ≤ (L : Int) + 2) = true := by rw [decide_eq_true_eq]; omega
  have q3 : (0 : Int) < (L : Int) + 2 := by omega
  have q4 : (1 : Int) < (L : Int) + 2 := by omega
  have q5 : ¬ L + 2 = 2 := by omega
  have q6 : ¬ L = 0 := by omega
  have q7 : (2 : Int) ≤ (L : Int) + 2 := by omega
  go_enter Try.func22, Try.ntmps22
  go_wp2_with fail
  go_ret2
  exact ⟨rfl, Below.refl _ _⟩
set_option maxRecDepth 100000 in
set_option maxHeartbeats 1000000 in
theorem p_no (g L : Nat) (K : Nat → Int) (T : Nat → ByteArray) (W : Nat → Int) (w : World) (h : Tab w g 53 7 (L + 2) (tc K T W)) (hL : 1 ≤ L) (hM : L ≤ 1048576) (a : (K 0 == 29) = true) (b : (K 1 == 9) = true) (v : Nat) (W' : Nat → Int) (hv : v < L) (hS : Calls Try.prog 23 #[.slice (some ⟨g, 14, none⟩) L L] w (ScanVP g L v K T W' w)) :
    Calls Try.prog 22 #[.slice (some ⟨g, 0, none⟩) (L + 2) (L + 2)] w (NoP g w) := by
  have x5 : w.cell? ⟨g, 5, none⟩ = some (.int .u8 (K 0)) := h.cell (i := 0) (by omega) (j := 5) (by omega)
  have x12 : w.cell? ⟨g, 12, none⟩ = some (.int .u8 (K 1)) := h.cell (i := 1) (by omega) (j := 5) (by omega)
  have HS := Lib.hid hS
  clear h hS
  have q1 : (((L + 2 : Nat) : Int) == 1) = false := by rw [beq_eq_false_iff_ne]; omega
  have q1' : ((L : Int) + 2 == 1) = false := by rw [beq_eq_false_iff_ne]; omega
  have q2 : decide ((3 : Int) ≤ ((L + 2 : Nat) : Int)) = true := by rw [decide_eq_true_eq]; omega
  have q2' : decide ((3 : Int) ≤ (L : Int) + 2) = true := by rw [decide_eq_true_eq]; omega
  have q3 : (0 : Int) < (L : Int) + 2 := by omega
  have q4 : (1 : Int) < (L : Int) + 2 := by omega
  have q5 : ¬ L + 2 = 2 := by omega
  have q6 : ¬ L = 0 := by omega
  have q7 : (2 : Int) ≤ (L : Int) + 2 := by omega
  go_enter Try.func22, Try.ntmps22
  go_wp2_with fail
  refine HS.out.mono ?_
  rintro e w' ⟨X, Y, rfl, hT, hb⟩
  have HB := Lib.hid hb
  clear hT hb HS
  have q8 : (((L - v : Nat) : Int) == 0) = false := by rw [beq_eq_false_iff_ne]; omega
  go_wp2_with fail
  go_ret2
  exact ⟨rfl, HB.out⟩
set_option maxRecDepth 100000 in
set_option maxHeartbeats 1000000 in
theorem p_yes (g L : Nat) (K : Nat → Int) (T : Nat → ByteArray) (W : Nat → Int) (w : World) (h : Tab w g 53 7 (L + 2) (tc K T W)) (hL : 1 ≤ L) (hM : L ≤ 1048576) (a : (K 0 == 29) = true) (b : (K 1 == 9) = true) (W' : Nat → Int) (hS : Calls Try.prog 23 #[.slice (some ⟨g, 14, none⟩) L L] w (ScanVP g L L K T W' w)) :
    Calls Try.prog 22 #[.slice (some ⟨g, 0, none⟩) (L + 2) (L + 2)] w (YesP g (L + 2) (T 0) (.slice (some ⟨g, 14, none⟩) L L) (tc K T W') w) := by
  have x5 : w.cell? ⟨g, 5, none⟩ = some (.int .u8 (K 0)) := h.cell (i := 0) (by omega) (j := 5) (by omega)
  have x12 : w.cell? ⟨g, 12, none⟩ = some (.int .u8 (K 1)) := h.cell (i := 1) (by omega) (j := 5) (by omega)
  have HS := Lib.hid hS
  have hg := h.lt
  clear h hS
  have q1 : (((L + 2 : Nat) : Int) == 1) = false := by rw [beq_eq_false_iff_ne]; omega
  have q1' : ((L : Int) + 2 == 1) = false := by rw [beq_eq_false_iff_ne]; omega
  have q2 : decide ((3 : Int) ≤ ((L + 2 : Nat) : Int)) = true := by rw [decide_eq_true_eq]; omega
  have q2' : decide ((3 : Int) ≤ (L : Int) + 2) = true := by rw [decide_eq_true_eq]; omega
  have q3 : (0 : Int) < (L : Int) + 2 := by omega
  have q4 : (1 : Int) < (L : Int) + 2 := by omega
  have q5 : ¬ L + 2 = 2 := by omega
  have q6 : ¬ L = 0 := by omega
  have q7 : (2 : Int) ≤ (L : Int) + 2 := by omega
  go_enter Try.func22, Try.ntmps22
  go_wp2_with fail
  refine HS.out.mono ?_
  rintro e w' ⟨X, Y, rfl, hT, hb⟩
  have HB := Lib.hid hb
  have TT := Lib.hid hT
  have x1 : w'.cell? ⟨g, 1, none⟩ = some (.string (T 0)) := hT.cell (i := 0) (by omega) (j := 1) (by omega)
  clear hT hb HS
  rw [Nat.sub_self]
  go_wp2_with fail
  go_ret2
  exact ⟨w'.heap.size, rfl, Blk.new' rfl, TT.out.alloc _, HB.out.alloc (Nat.le_trans (Nat.le_of_lt hg) HB.out.size) _⟩
end Go.Proofs.Ytpbdfdmocaojgaa.MA
