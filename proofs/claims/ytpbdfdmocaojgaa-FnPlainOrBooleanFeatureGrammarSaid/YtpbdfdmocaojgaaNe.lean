/- ZZparsePlainOrBooleanMediaFeature, zzFeatureShape, zzBytes. Printed by gen_ne.py. -/
import Derived.Test.YtpbdfdmocaojgaaNd
namespace Go.Proofs.Ytpbdfdmocaojgaa.MA
open Go.RowKit Go.Proofs.Ytpbdfdmocaojgaa.TB
set_option linter.unusedVariables false
set_option maxRecDepth 100000 in
theorem zzNo (g : Nat) (A : Option Addr) (n c : Nat) (w : World) (h : Calls Try.prog 22 #[.slice A n c] w (NoP g w)) : Calls Try.prog 12 #[.slice A n c] w (NoP g w) := by
  have H := Lib.hid h
  clear h
  go_enter Try.func12, Try.ntmps12
  go_wp2_with fail
  refine H.out.mono ?_
  rintro e w' ⟨rfl, hb⟩
  have HB := Lib.hid hb
  clear hb
  go_wp2_with fail
  go_ret2
  exact ⟨rfl, HB.out⟩
set_option maxRecDepth 100000 in
theorem zzYes (g n : Nat) (t : ByteArray) (v : Value) (f' : Nat → Nat → Value) (A : Option Addr) (m c : Nat) (w : World) (h : Calls Try.prog 22 #[.slice A m c] w (YesP g n t v f' w)) : Calls Try.prog 12 #[.slice A m c] w (YesP g n t v f' w) := by
  have H := Lib.hid h
  clear h
  go_enter Try.func12, Try.ntmps12
  go_wp2_with fail
  refine H.out.mono ?_
  rintro e w' ⟨gp, rfl, h1, h2, hb⟩
  have HB := Lib.hid hb
  have H1 := Lib.hid h1
  have H2 := Lib.hid h2
  clear hb h1 h2
  go_wp2_with fail
  go_ret2
  exact ⟨gp, rfl, H1.out, H2.out, HB.out⟩
def ShP (b : Bool) (M : Int) (w : World) (e : Ending) (w' : World) : Prop := e = .returned (.tuple #[.bool b, .int .i64 M]) ∧ w = w'
set_option maxRecDepth 100000 in
set_option maxHeartbeats 1000000 in
theorem s_0 (A : Option Addr) (c : Nat) (w : World)  :
    Calls Try.prog 13 #[.slice A 0 c] w (ShP false 0 w) := by
  go_enter Try.func13, Try.ntmps13
  go_wp2_with fail
  go_ret2
  exact ⟨rfl, rfl⟩
set_option maxRecDepth 100000 in
set_option maxHeartbeats 1000000 in
theorem s_1 (A : Option Addr) (c : Nat) (z : Nat → Int) (w : World) (r : BR w A 1 z) (hz : ∀ i, i < 1 → 0 ≤ z i ∧ z i ≤ 255) :
    Calls Try.prog 13 #[.slice A 1 c] w (ShP (kdf (z 0) == 29) 0 w) := by
  obtain ⟨b, o, rfl, hb, hc⟩ := r (by omega)
  have x0 : w.cell? ⟨b, o, none⟩ = some (.int .u8 (z 0)) := hc 0 (by omega)
  have b0 := (hz 0 (by omega)).1
  have t0 := (hz 0 (by omega)).2
  clear hc r hz
  go_enter Try.func13, Try.ntmps13
  go_wp2_with fail
  refine (kindOf (z 0) _ b0 t0).mono ?_
  rintro e w' ⟨rfl, rfl⟩
  go_wp2_with fail
  go_ret2
  exact ⟨rfl, rfl⟩
set_option maxRecDepth 100000 in
set_option maxHeartbeats 1000000 in
theorem s_2 (A : Option Addr) (c : Nat) (z : Nat → Int) (w : World)  :
    Calls Try.prog 13 #[.slice A 2 c] w (ShP false 0 w) := by
  go_enter Try.func13, Try.ntmps13
  go_wp2_with fail
  go_ret2
  exact ⟨rfl, rfl⟩
set_option maxRecDepth 100000 in
set_option maxHeartbeats 1000000 in
theorem s_k0 (A : Option Addr) (n c : Nat) (z : Nat → Int) (w : World) (r : BR w A n z) (hz : ∀ i, i < n → 0 ≤ z i ∧ z i ≤ 255) (hn : 3 ≤ n) (hM : n ≤ 1048576) (a : (kdf (z 0) != 29) = true)  :
    Calls Try.prog 13 #[.slice A n c] w (ShP false 0 w) := by
  obtain ⟨b, o, rfl, hb, hc⟩ := r (by omega)
  have x0 : w.cell? ⟨b, o, none⟩ = some (.int .u8 (z 0)) := hc 0 (by omega)
  have b0 := (hz 0 (by omega)).1
  have t0 := (hz 0 (by omega)).2
  clear hc r hz
  have q1 : ((n : Int) == 1) = false := by rw [beq_eq_false_iff_ne]; omega
  have q2 : decide ((n : Int) < 3) = false := by rw [decide_eq_false_iff_not]; omega
  have q3 : (0 : Int) < (n : Int) := by omega
  have q4 : (1 : Int) < (n : Int) := by omega
  have q5 : (2 : Int) < (n : Int) := by omega
  go_enter Try.func13, Try.ntmps13
  go_wp2_with fail
  refine (kindOf (z 0) _ b0 t0).mono ?_
  rintro e w' ⟨rfl, rfl⟩
  go_wp2_with fail
  go_ret2
  exact ⟨rfl, rfl⟩
set_option maxRecDepth 100000 in
set_option maxHeartbeats 1000000 in
theorem s_k1 (A : Option Addr) (n c : Nat) (z : Nat → Int) (w : World) (r : BR w A n z) (hz : ∀ i, i < n → 0 ≤ z i ∧ z i ≤ 255) (hn : 3 ≤ n) (hM : n ≤ 1048576) (a : (kdf (z 0) != 29) = false) (d : (kdf (z 1) != 9) = true) :
    Calls Try.prog 13 #[.slice A n c] w (ShP false 0 w) := by
  obtain ⟨b, o, rfl, hb, hc⟩ := r (by omega)
  have x0 : w.cell? ⟨b, o, none⟩ = some (.int .u8 (z 0)) := hc 0 (by omega)
  have b0 := (hz 0 (by omega)).1
  have t0 := (hz 0 (by omega)).2
  have x1 := hc 1 (by omega)
  have b1 := (hz 1 (by omega)).1
  have t1 := (hz 1 (by omega)).2
  clear hc r hz
  have q1 : ((n : Int) == 1) = false := by rw [beq_eq_false_iff_ne]; omega
  have q2 : decide ((n : Int) < 3) = false := by rw [decide_eq_false_iff_not]; omega
  have q3 : (0 : Int) < (n : Int) := by omega
  have q4 : (1 : Int) < (n : Int) := by omega
  have q5 : (2 : Int) < (n : Int) := by omega
  go_enter Try.func13, Try.ntmps13
  go_wp2_with fail
  refine (kindOf (z 0) _ b0 t0).mono ?_
  rintro e w' ⟨rfl, rfl⟩
  go_wp2_with fail
  refine (kindOf (z 1) _ b1 t1).mono ?_
  rintro e w' ⟨rfl, rfl⟩
  go_wp2_with fail
  go_ret2
  exact ⟨rfl, rfl⟩
set_option maxRecDepth 100000 in
set_option maxHeartbeats 1000000 in
theorem s_3i (A : Option Addr) (c : Nat) (z : Nat → Int) (w : World) (r : BR w A 3 z) (hz : ∀ i, i < 3 → 0 ≤ z i ∧ z i ≤ 255) (a : (kdf (z 0) != 29) = false) (d : (kdf (z 1) != 9) = false) (p : (kdf (z 2) == 29) = true) :
    Calls Try.prog 13 #[.slice A 3 c] w (ShP true 1 w) := by
  obtain ⟨b, o, rfl, hb, hc⟩ := r (by omega)
  have x0 : w.cell? ⟨b, o, none⟩ = some (.int .u8 (z 0)) := hc 0 (by omega)
  have b0 := (hz 0 (by omega)).1
  have t0 := (hz 0 (by omega)).2
  have x1 := hc 1 (by omega)
  have b1 := (hz 1 (by omega)).1
  have t1 := (hz 1 (by omega)).2
  have x2 := hc 2 (by omega)
  have b2 := (hz 2 (by omega)).1
  have t2 := (hz 2 (by omega)).2
  clear hc r hz
  go_enter Try.func13, Try.ntmps13
  go_wp2_with fail
  refine (kindOf (z 0) _ b0 t0).mono ?_
  rintro e w' ⟨rfl, rfl⟩
  go_wp2_with fail
  refine (kindOf (z 1) _ b1 t1).mono ?_
  rintro e w' ⟨rfl, rfl⟩
  go_wp2_with fail
  refine (kindOf (z 2) _ b2 t2).mono ?_
  rintro e w' ⟨rfl, rfl⟩
  go_wp2_with fail
  go_ret2
  exact ⟨rfl, rfl⟩
set_option maxRecDepth 100000 in
set_option maxHeartbeats 1000000 in
theorem s_3n (A : Option Addr) (c : Nat) (z : Nat → Int) (w : World) (r : BR w A 3 z) (hz : ∀ i, i < 3 → 0 ≤ z i ∧ z i ≤ 255) (a : (kdf (z 0) != 29) = false) (d : (kdf (z 1) != 9) = false) (p : (kdf (z 2) == 29) = false) (q : (kdf (z 2) == 30) = true) :
    Calls Try.prog 13 #[.slice A 3 c] w (ShP true 1 w) := by
  obtain ⟨b, o, rfl, hb, hc⟩ := r (by omega)
  have x0 : w.cell? ⟨b, o, none⟩ = some (.int .u8 (z 0)) := hc 0 (by omega)
  have b0 := (hz 0 (by omega)).1
  have t0 := (hz 0 (by omega)).2
  have x1 := hc 1 (by omega)
  have b1 := (hz 1 (by omega)).1
  have t1 := (hz 1 (by omega)).2
  have x2 := hc 2 (by omega)
  have b2 := (hz 2 (by omega)).1
  have t2 := (hz 2 (by omega)).2
  clear hc r hz
  go_enter Try.func13, Try.ntmps13
  go_wp2_with fail
  refine (kindOf (z 0) _ b0 t0).mono ?_
  rintro e w' ⟨rfl, rfl⟩
  go_wp2_with fail
  refine (kindOf (z 1) _ b1 t1).mono ?_
  rintro e w' ⟨rfl, rfl⟩
  go_wp2_with fail
  refine (kindOf (z 2) _ b2 t2).mono ?_
  rintro e w' ⟨rfl, rfl⟩
  go_wp2_with fail
  go_ret2
  exact ⟨rfl, rfl⟩
set_option maxRecDepth 100000 in
set_option maxHeartbeats 1000000 in
theorem s_3d (A : Option Addr) (c : Nat) (z : Nat → Int) (w : World) (r : BR w A 3 z) (hz : ∀ i, i < 3 → 0 ≤ z i ∧ z i ≤ 255) (a : (kdf (z 0) != 29) = false) (d : (kdf (z 1) != 9) = false) (p : (kdf (z 2) == 29) = false) (q : (kdf (z 2) == 30) = false) (s : (kdf (z 2) == 26) = true) :
    Calls Try.prog 13 #[.slice A 3 c] w (ShP true 1 w) := by
  obtain ⟨b, o, rfl, hb, hc⟩ := r (by omega)
  have x0 : w.cell? ⟨b, o, none⟩ = some (.int .u8 (z 0)) := hc 0 (by omega)
  have b0 := (hz 0 (by omega)).1
  have t0 := (hz 0 (by omega)).2
  have x1 := hc 1 (by omega)
  have b1 := (hz 1 (by omega)).1
  have t1 := (hz 1 (by omega)).2
  have x2 := hc 2 (by omega)
  have b2 := (hz 2 (by omega)).1
  have t2 := (hz 2 (by omega)).2
  clear hc r hz
  go_enter Try.func13, Try.ntmps13
  go_wp2_with fail
  refine (kindOf (z 0) _ b0 t0).mono ?_
  rintro e w' ⟨rfl, rfl⟩
  go_wp2_with fail
  refine (kindOf (z 1) _ b1 t1).mono ?_
  rintro e w' ⟨rfl, rfl⟩
  go_wp2_with fail
  refine (kindOf (z 2) _ b2 t2).mono ?_
  rintro e w' ⟨rfl, rfl⟩
  go_wp2_with fail
  go_ret2
  exact ⟨rfl, rfl⟩
set_option maxRecDepth 100000 in
set_option maxHeartbeats 1000000 in
theorem s_3x (A : Option Addr) (c : Nat) (z : Nat → Int) (w : World) (r : BR w A 3 z) (hz : ∀ i, i < 3 → 0 ≤ z i ∧ z i ≤ 255) (a : (kdf (z 0) != 29) = false) (d : (kdf (z 1) != 9) = false) (p : (kdf (z 2) == 29) = false) (q : (kdf (z 2) == 30) = false) (s : (kdf (z 2) == 26) = false) :
    Calls Try.prog 13 #[.slice A 3 c] w (ShP false 1 w) := by
  obtain ⟨b, o, rfl, hb, hc⟩ := r (by omega)
  have x0 : w.cell? ⟨b, o, none⟩ = some (.int .u8 (z 0)) := hc 0 (by omega)
  have b0 := (hz 0 (by omega)).1
  have t0 := (hz 0 (by omega)).2
  have x1 := hc 1 (by omega)
  have b1 := (hz 1 (by omega)).1
  have t1 := (hz 1 (by omega)).2
  have x2 := hc 2 (by omega)
  have b2 := (hz 2 (by omega)).1
  have t2 := (hz 2 (by omega)).2
  clear hc r hz
  go_enter Try.func13, Try.ntmps13
  go_wp2_with fail
  refine (kindOf (z 0) _ b0 t0).mono ?_
  rintro e w' ⟨rfl, rfl⟩
  go_wp2_with fail
  refine (kindOf (z 1) _ b1 t1).mono ?_
  rintro e w' ⟨rfl, rfl⟩
  go_wp2_with fail
  refine (kindOf (z 2) _ b2 t2).mono ?_
  rintro e w' ⟨rfl, rfl⟩
  go_wp2_with fail
  go_ret2
  exact ⟨rfl, rfl⟩
set_option maxRecDepth 100000 in
set_option maxHeartbeats 1000000 in
theorem s_5y (A : Option Addr) (c : Nat) (z : Nat → Int) (w : World) (r : BR w A 5 z) (hz : ∀ i, i < 5 → 0 ≤ z i ∧ z i ≤ 255) (a : (kdf (z 0) != 29) = false) (d : (kdf (z 1) != 9) = false) (p : (kdf (z 2) == 30) = true) (q : (kdf (z 3) == 24) = true) (s : (kdf (z 4) == 30) = true) :
    Calls Try.prog 13 #[.slice A 5 c] w (ShP true 3 w) := by
  obtain ⟨b, o, rfl, hb, hc⟩ := r (by omega)
  have x0 : w.cell? ⟨b, o, none⟩ = some (.int .u8 (z 0)) := hc 0 (by omega)
  have b0 := (hz 0 (by omega)).1
  have t0 := (hz 0 (by omega)).2
  have x1 := hc 1 (by omega)
  have b1 := (hz 1 (by omega)).1
  have t1 := (hz 1 (by omega)).2
  have x2 := hc 2 (by omega)
  have b2 := (hz 2 (by omega)).1
  have t2 := (hz 2 (by omega)).2
  have x3 := hc 3 (by omega)
  have b3 := (hz 3 (by omega)).1
  have t3 := (hz 3 (by omega)).2
  have x4 := hc 4 (by omega)
  have b4 := (hz 4 (by omega)).1
  have t4 := (hz 4 (by omega)).2
  clear hc r hz
  go_enter Try.func13, Try.ntmps13
  go_wp2_with fail
  refine (kindOf (z 0) _ b0 t0).mono ?_
  rintro e w' ⟨rfl, rfl⟩
  go_wp2_with fail
  refine (kindOf (z 1) _ b1 t1).mono ?_
  rintro e w' ⟨rfl, rfl⟩
  go_wp2_with fail
  refine (kindOf (z 2) _ b2 t2).mono ?_
  rintro e w' ⟨rfl, rfl⟩
  go_wp2_with fail
  refine (kindOf (z 3) _ b3 t3).mono ?_
  rintro e w' ⟨rfl, rfl⟩
  go_wp2_with fail
  refine (kindOf (z 4) _ b4 t4).mono ?_
  rintro e w' ⟨rfl, rfl⟩
  go_wp2_with fail
  go_ret2
  exact ⟨rfl, rfl⟩
set_option maxRecDepth 100000 in
set_option maxHeartbeats 1000000 in
theorem s_5a (A : Option Addr) (c : Nat) (z : Nat → Int) (w : World) (r : BR w A 5 z) (hz : ∀ i, i < 5 → 0 ≤ z i ∧ z i ≤ 255) (a : (kdf (z 0) != 29) = false) (d : (kdf (z 1) != 9) = false) (p : (kdf (z 2) == 30) = false) :
    Calls Try.prog 13 #[.slice A 5 c] w (ShP false 0 w) := by
  obtain ⟨b, o, rfl, hb, hc⟩ := r (by omega)
  have x0 : w.cell? ⟨b, o, none⟩ = some (.int .u8 (z 0)) := hc 0 (by omega)
  have b0 := (hz 0 (by omega)).1
  have t0 := (hz 0 (by omega)).2
  have x1 := hc 1 (by omega)
  have b1 := (hz 1 (by omega)).1
  have t1 := (hz 1 (by omega)).2
  have x2 := hc 2 (by omega)
  have b2 := (hz 2 (by omega)).1
  have t2 := (hz 2 (by omega)).2
  clear hc r hz
  go_enter Try.func13, Try.ntmps13
  go_wp2_with fail
  refine (kindOf (z 0) _ b0 t0).mono ?_
  rintro e w' ⟨rfl, rfl⟩
  go_wp2_with fail
  refine (kindOf (z 1) _ b1 t1).mono ?_
  rintro e w' ⟨rfl, rfl⟩
  go_wp2_with fail
  refine (kindOf (z 2) _ b2 t2).mono ?_
  rintro e w' ⟨rfl, rfl⟩
  go_wp2_with fail
  go_ret2
  exact ⟨rfl, rfl⟩
set_option maxRecDepth 100000 in
set_option maxHeartbeats 1000000 in
theorem s_5b (A : Option Addr) (c : Nat) (z : Nat → Int) (w : World) (r : BR w A 5 z) (hz : ∀ i, i < 5 → 0 ≤ z i ∧ z i ≤ 255) (a : (kdf (z 0) != 29) = false) (d : (kdf (z 1) != 9) = false) (p : (kdf (z 2) == 30) = true) (q : (kdf (z 3) == 24) = false) :
    Calls Try.prog 13 #[.slice A 5 c] w (ShP false 0 w) := by
  obtain ⟨b, o, rfl, hb, hc⟩ := r (by omega)
  have x0 : w.cell? ⟨b, o, none⟩ = some (.int .u8 (z 0)) := hc 0 (by omega)
  have b0 := (hz 0 (by omega)).1
  have t0 := (hz 0 (by omega)).2
  have x1 := hc 1 (by omega)
  have b1 := (hz 1 (by omega)).1
  have t1 := (hz 1 (by omega)).2
  have x2 := hc 2 (by omega)
  have b2 := (hz 2 (by omega)).1
  have t2 := (hz 2 (by omega)).2
  have x3 := hc 3 (by omega)
  have b3 := (hz 3 (by omega)).1
  have t3 := (hz 3 (by omega)).2
  clear hc r hz
  go_enter Try.func13, Try.ntmps13
  go_wp2_with fail
  refine (kindOf (z 0) _ b0 t0).mono ?_
  rintro e w' ⟨rfl, rfl⟩
  go_wp2_with fail
  refine (kindOf (z 1) _ b1 t1).mono ?_
  rintro e w' ⟨rfl, rfl⟩
  go_wp2_with fail
  refine (kindOf (z 2) _ b2 t2).mono ?_
  rintro e w' ⟨rfl, rfl⟩
  go_wp2_with fail
  refine (kindOf (z 3) _ b3 t3).mono ?_
  rintro e w' ⟨rfl, rfl⟩
  go_wp2_with fail
  go_ret2
  exact ⟨rfl, rfl⟩
set_option maxRecDepth 100000 in
set_option maxHeartbeats 1000000 in
theorem s_5c (A : Option Addr) (c : Nat) (z : Nat → Int) (w : World) (r : BR w A 5 z) (hz : ∀ i, i < 5 → 0 ≤ z i ∧ z i ≤ 255) (a : (kdf (z 0) != 29) = false) (d : (kdf (z 1) != 9) = false) (p : (kdf (z 2) == 30) = true) (q : (kdf (z 3) == 24) = true) (s : (kdf (z 4) == 30) = false) :
    Calls Try.prog 13 #[.slice A 5 c] w (ShP false 0 w) := by
  obtain ⟨b, o, rfl, hb, hc⟩ := r (by omega)
  have x0 : w.cell? ⟨b, o, none⟩ = some (.int .u8 (z 0)) := hc 0 (by omega)
  have b0 := (hz 0 (by omega)).1
  have t0 := (hz 0 (by omega)).2
  have x1 := hc 1 (by omega)
  have b1 := (hz 1 (by omega)).1
  have t1 := (hz 1 (by omega)).2
  have x2 := hc 2 (by omega)
  have b2 := (hz 2 (by omega)).1
  have t2 := (hz 2 (by omega)).2
  have x3 := hc 3 (by omega)
  have b3 := (hz 3 (by omega)).1
  have t3 := (hz 3 (by omega)).2
  have x4 := hc 4 (by omega)
  have b4 := (hz 4 (by omega)).1
  have t4 := (hz 4 (by omega)).2
  clear hc r hz
  go_enter Try.func13, Try.ntmps13
  go_wp2_with fail
  refine (kindOf (z 0) _ b0 t0).mono ?_
  rintro e w' ⟨rfl, rfl⟩
  go_wp2_with fail
  refine (kindOf (z 1) _ b1 t1).mono ?_
  rintro e w' ⟨rfl, rfl⟩
  go_wp2_with fail
  refine (kindOf (z 2) _ b2 t2).mono ?_
  rintro e w' ⟨rfl, rfl⟩
  go_wp2_with fail
  refine (kindOf (z 3) _ b3 t3).mono ?_
  rintro e w' ⟨rfl, rfl⟩
  go_wp2_with fail
  refine (kindOf (z 4) _ b4 t4).mono ?_
  rintro e w' ⟨rfl, rfl⟩
  go_wp2_with fail
  go_ret2
  exact ⟨rfl, rfl⟩
set_option maxRecDepth 100000 in
set_option maxHeartbeats 1000000 in
theorem s_n (A : Option Addr) (n c : Nat) (z : Nat → Int) (w : World) (r : BR w A n z) (hz : ∀ i, i < n → 0 ≤ z i ∧ z i ≤ 255) (hn : 3 ≤ n) (hM : n ≤ 1048576) (h3 : n ≠ 3) (h5 : n ≠ 5) (a : (kdf (z 0) != 29) = false) (d : (kdf (z 1) != 9) = false) :
    Calls Try.prog 13 #[.slice A n c] w (ShP false 0 w) := by
  obtain ⟨b, o, rfl, hb, hc⟩ := r (by omega)
  have x0 : w.cell? ⟨b, o, none⟩ = some (.int .u8 (z 0)) := hc 0 (by omega)
  have b0 := (hz 0 (by omega)).1
  have t0 := (hz 0 (by omega)).2
  have x1 := hc 1 (by omega)
  have b1 := (hz 1 (by omega)).1
  have t1 := (hz 1 (by omega)).2
  clear hc r hz
  have q1 : ((n : Int) == 1) = false := by rw [beq_eq_false_iff_ne]; omega
  have q2 : decide ((n : Int) < 3) = false := by rw [decide_eq_false_iff_not]; omega
  have q3 : (0 : Int) < (n : Int) := by omega
  have q4 : (1 : Int) < (n : Int) := by omega
  have q5 : (2 : Int) < (n : Int) := by omega
  have q6 : ((n : Int) - 2 == 1) = false := by rw [beq_eq_false_iff_ne]; omega
  have q7 : ((n : Int) - 2 == 3) = false := by rw [beq_eq_false_iff_ne]; omega
  go_enter Try.func13, Try.ntmps13
  go_wp2_with fail
  refine (kindOf (z 0) _ b0 t0).mono ?_
  rintro e w' ⟨rfl, rfl⟩
  go_wp2_with fail
  refine (kindOf (z 1) _ b1 t1).mono ?_
  rintro e w' ⟨rfl, rfl⟩
  go_wp2_with fail
  go_ret2
  exact ⟨rfl, rfl⟩
def Bytes3 (n : Nat) (T : Nat → ByteArray) (w : World) (e : Ending) (w' : World) : Prop := ∃ b : Bool, (b = true → ∀ i, i < n → (T i).size ≤ 1048576) ∧ e = .returned (.bool b) ∧ w = w'
set_option maxRecDepth 100000 in
set_option maxHeartbeats 1000000 in
theorem bytes10 (A B D : Option Addr) (n c m d p q : Nat) (T : Nat → ByteArray) (w : World) (r : SR w B m T) (hn : n ≤ maxLen) (hm : m ≤ maxLen) (hp : p ≤ maxLen) (hT : ∀ i, i < m → (T i).size ≤ maxLen) :
    Calls Try.prog 10 #[.slice A n c, .slice B m d, .slice D p q] w (Bytes3 m T w) := by
  unfold maxLen at hn hm hp hT
  have R := Lib.hid r
  have HT := Lib.hid hT
  clear r hT
  by_cases h1 : n ≤ 1048576
  · by_cases h2 : m ≤ 1048576
    · by_cases h3 : n + m ≤ 1048576
      · go_enter Try.func10, Try.ntmps10
        go_wp2
        go_loop [7, 8] (fun s i => ∃ (k : Nat) (N : Int), k ≤ m ∧ 0 ≤ N ∧ N ≤ 1048576 ∧ i = .int .i64 k ∧ s = .int .i64 N ∧ Hid (∀ i, i < k → (T i).size ≤ 1048576)) (fun _ i => m - (intOf i).toNat)
        case atStart => exact ⟨0, (n : Int) + m, Nat.zero_le _, by omega, by omega, rfl, rfl, Lib.hid (fun i hi => absurd hi (by omega))⟩
        case round =>
          obtain ⟨k, N, hk, h0, h1, rfl, rfl, HA⟩ := hrel
          by_cases hlt : k < m
          · obtain ⟨b, o, rfl, hb, hc⟩ := R.out (by omega)
            have x1 := hc k hlt
            have hts := HT.out k hlt
            clear hc
            have q1 : (0 : Int) ≤ (k : Int) := by omega
            have q2 : (k : Int) < (m : Int) := by omega
            by_cases h4 : (T k).size ≤ 1048576
            · have HA2 : Hid (∀ i, i < k + 1 → (T i).size ≤ 1048576) := by
                apply Lib.hid
                intro i hi
                by_cases e : i = k
                · subst e; exact h4
                · exact HA.out i (by omega)
              by_cases h5 : N + (T k).size ≤ 1048576
              · go_wp2
                go_round
                case rel => exact ⟨k + 1, N + (T k).size, by omega, by omega, by omega, by go_num, rfl, HA2⟩
                case measure => simp [intOf]; omega
              · go_wp2
                go_ret
                exact ⟨false, (fun h => by cases h), rfl, rfl⟩
            · go_wp2
              go_ret
              exact ⟨false, (fun h => by cases h), rfl, rfl⟩
          · obtain rfl : k = m := by omega
            by_cases h6 : p ≤ 1048576
            · by_cases h7 : N + p ≤ 1048576
              · go_wp2
                go_ret
                exact ⟨true, (fun _ => HA.out), rfl, rfl⟩
              · go_wp2
                go_ret
                exact ⟨false, (fun h => by cases h), rfl, rfl⟩
            · go_wp2
              go_ret
              exact ⟨false, (fun h => by cases h), rfl, rfl⟩
      · go_enter Try.func10, Try.ntmps10
        go_wp2
        go_ret
        exact ⟨false, (fun h => by cases h), rfl, rfl⟩
    · go_enter Try.func10, Try.ntmps10
      go_wp2
      go_ret
      exact ⟨false, (fun h => by cases h), rfl, rfl⟩
  · go_enter Try.func10, Try.ntmps10
    go_wp2
    go_ret
    exact ⟨false, (fun h => by cases h), rfl, rfl⟩
end Go.Proofs.Ytpbdfdmocaojgaa.MA
