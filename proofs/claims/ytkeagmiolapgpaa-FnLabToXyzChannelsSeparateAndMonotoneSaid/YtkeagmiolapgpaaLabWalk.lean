/- The walk of FnLabToXyzChannelsSeparateAndMonotone. Printed by gen_lablaw.py. -/
import Derived.Test.YtkeagmiolapgpaaLabLaw
namespace Go.Proofs.Ytkeagmiolapgpaa.F64
open Go.RowKit Go.Proofs.Ytkeagmiolapgpaa.FL

set_option maxRecDepth 100000 in
set_option maxHeartbeats 4000000 in
theorem wayFF (l a1 a2 b1 b2 : Nat) (w : World) (n0 : l < 2 ^ 64) (n1 : a1 < 2 ^ 64) (n2 : a2 < 2 ^ 64) (n3 : b1 < 2 ^ 64) (n4 : b2 < 2 ^ 64) (hl : inB l 13875379345695965184 4652007308841189376 = true) (ha1 : inB a1 13875379345695965184 4652007308841189376 = true) (ha2 : inB a2 13875379345695965184 4652007308841189376 = true) (hb1 : inB b1 13875379345695965184 4652007308841189376 = true) (hb2 : inB b2 13875379345695965184 4652007308841189376 = true)
    (p1 : (FloatKind.f64.format.order a1 a2 == some .gt) = false) (p2 : (FloatKind.f64.format.order b1 b2 == some .gt) = false) :
    Calls Try.prog 4 #[.float .f64 l, .float .f64 a1, .float .f64 a2, .float .f64 b1, .float .f64 b2] w fun e w' => e = .returned (.bool true) ∧ Below w.heap.size w w' := by
  have L := inB_true n0 hl
  have I1 := inB_true n1 ha1
  have I2 := inB_true n2 ha2
  have J1 := inB_true n3 hb1
  have J2 := inB_true n4 hb2
  have hA : rv a1 ≤ rv a2 := by have := (gt_iff I1.1 I2.1).symm.trans p1; simp at this; grind
  have hB : rv b1 ≤ rv b2 := by have := (gt_iff J1.1 J2.1).symm.trans p2; simp at this; grind
  have HG := Lib.hid (fun (X1 Y1 Z1 X2 Y2 Z2 X3 Y3 Z3 : Nat) (c1 : LabR l a1 b1 X1 Y1 Z1) (c2 : LabR l a2 b1 X2 Y2 Z2) (c3 : LabR l a1 b2 X3 Y3 Z3) => labs L I1 I2 J1 J2 hA hB c1 c2 c3)
  clear L I1 I2 J1 J2 hA hB n0 n1 n2 n3 n4
  have HL := Lib.hid hl; clear hl
  have H1 := Lib.hid ha1; clear ha1
  have H2 := Lib.hid ha2; clear ha2
  have H3 := Lib.hid hb1; clear hb1
  have H4 := Lib.hid hb2; clear hb2
  go_enter Try.func4, Try.ntmps4
  go_wp2_with fail
  refine (zzIn l 13875379345695965184 4652007308841189376 _).mono ?_
  rintro e w' ⟨rfl, rfl⟩
  rw [HL.out]
  go_wp2_with fail
  refine (zzIn a1 13875379345695965184 4652007308841189376 _).mono ?_
  rintro e w' ⟨rfl, rfl⟩
  rw [H1.out]
  go_wp2_with fail
  refine (zzIn a2 13875379345695965184 4652007308841189376 _).mono ?_
  rintro e w' ⟨rfl, rfl⟩
  rw [H2.out]
  go_wp2_with fail
  refine (zzIn b1 13875379345695965184 4652007308841189376 _).mono ?_
  rintro e w' ⟨rfl, rfl⟩
  rw [H3.out]
  go_wp2_with fail
  refine (zzIn b2 13875379345695965184 4652007308841189376 _).mono ?_
  rintro e w' ⟨rfl, rfl⟩
  rw [H4.out]
  go_wp2_with fail
  clear p1 p2
  refine (zzLab l a1 b1 _).mono ?_
  rintro e w1 ⟨X1, Y1, Z1, c1, rfl, hw1⟩
  have C1 := Lib.hid c1; clear c1
  go_wp2_with fail
  refine (zzLab l a2 b1 _).mono ?_
  rintro e w2 ⟨X2, Y2, Z2, c2, rfl, hw2⟩
  have C2 := Lib.hid c2; clear c2
  go_wp2_with fail
  refine (zzLab l a1 b2 _).mono ?_
  rintro e w3 ⟨X3, Y3, Z3, c3, rfl, hw3⟩
  obtain ⟨⟨rfl, rfl, rfl, rfl⟩, ⟨g1, g2, g3, g4, g5⟩, bx, bz, mx, mz⟩ := HG.out _ _ _ _ _ _ _ _ _ C1.out C2.out c3
  clear c3
  have o1 := order_self g3
  have o2 := order_self g4
  have o3 := order_self g1
  obtain ⟨s, p, t, e1, e2, e3, e4⟩ := slack g1 g2 bx mx
  obtain ⟨s', p', t', e1', e2', e3', e4'⟩ := slack g5 g4 bz mz
  have q1 := fun (ty : TypeId) (w : World) => run_float_arith (P := Try.prog) w .add ty .f64 _ _ _ e1
  have q2 := fun (ty : TypeId) (w : World) => run_float_arith (P := Try.prog) w .mul ty .f64 _ _ _ e2
  have q3 := fun (ty : TypeId) (w : World) => run_float_arith (P := Try.prog) w .add ty .f64 _ _ _ e3
  have q1' := fun (ty : TypeId) (w : World) => run_float_arith (P := Try.prog) w .add ty .f64 _ _ _ e1'
  have q2' := fun (ty : TypeId) (w : World) => run_float_arith (P := Try.prog) w .mul ty .f64 _ _ _ e2'
  have q3' := fun (ty : TypeId) (w : World) => run_float_arith (P := Try.prog) w .add ty .f64 _ _ _ e3'
  have HB := Lib.hid ((hw1.trans (hw2.mono hw1.size)).trans (hw3.mono (Nat.le_trans hw1.size hw2.size)))
  clear g1 g2 g3 g4 g5 bx bz mx mz e1 e2 e3 e1' e2' e3' hw1 hw2 hw3 C1 C2 HG
  go_wp2_with fail
  refine (zzAbs _ _).mono ?_
  rintro e w' ⟨rfl, rfl⟩
  go_wp2_with fail
  refine (zzAbs _ _).mono ?_
  rintro e w' ⟨rfl, rfl⟩
  go_wp2_with fail
  go_ret
  exact ⟨rfl, HB.out⟩

set_option maxRecDepth 100000 in
set_option maxHeartbeats 4000000 in
theorem wayFT (l a1 a2 b1 b2 : Nat) (w : World) (n0 : l < 2 ^ 64) (n1 : a1 < 2 ^ 64) (n2 : a2 < 2 ^ 64) (n3 : b1 < 2 ^ 64) (n4 : b2 < 2 ^ 64) (hl : inB l 13875379345695965184 4652007308841189376 = true) (ha1 : inB a1 13875379345695965184 4652007308841189376 = true) (ha2 : inB a2 13875379345695965184 4652007308841189376 = true) (hb1 : inB b1 13875379345695965184 4652007308841189376 = true) (hb2 : inB b2 13875379345695965184 4652007308841189376 = true)
    (p1 : (FloatKind.f64.format.order a1 a2 == some .gt) = false) (p2 : (FloatKind.f64.format.order b1 b2 == some .gt) = true) :
    Calls Try.prog 4 #[.float .f64 l, .float .f64 a1, .float .f64 a2, .float .f64 b1, .float .f64 b2] w fun e w' => e = .returned (.bool true) ∧ Below w.heap.size w w' := by
  have L := inB_true n0 hl
  have I1 := inB_true n1 ha1
  have I2 := inB_true n2 ha2
  have J1 := inB_true n3 hb1
  have J2 := inB_true n4 hb2
  have hA : rv a1 ≤ rv a2 := by have := (gt_iff I1.1 I2.1).symm.trans p1; simp at this; grind
  have hB : rv b2 ≤ rv b1 := by have := (gt_iff J1.1 J2.1).symm.trans p2; simp at this; grind
  have HG := Lib.hid (fun (X1 Y1 Z1 X2 Y2 Z2 X3 Y3 Z3 : Nat) (c1 : LabR l a1 b2 X1 Y1 Z1) (c2 : LabR l a2 b2 X2 Y2 Z2) (c3 : LabR l a1 b1 X3 Y3 Z3) => labs L I1 I2 J2 J1 hA hB c1 c2 c3)
  clear L I1 I2 J1 J2 hA hB n0 n1 n2 n3 n4
  have HL := Lib.hid hl; clear hl
  have H1 := Lib.hid ha1; clear ha1
  have H2 := Lib.hid ha2; clear ha2
  have H3 := Lib.hid hb1; clear hb1
  have H4 := Lib.hid hb2; clear hb2
  go_enter Try.func4, Try.ntmps4
  go_wp2_with fail
  refine (zzIn l 13875379345695965184 4652007308841189376 _).mono ?_
  rintro e w' ⟨rfl, rfl⟩
  rw [HL.out]
  go_wp2_with fail
  refine (zzIn a1 13875379345695965184 4652007308841189376 _).mono ?_
  rintro e w' ⟨rfl, rfl⟩
  rw [H1.out]
  go_wp2_with fail
  refine (zzIn a2 13875379345695965184 4652007308841189376 _).mono ?_
  rintro e w' ⟨rfl, rfl⟩
  rw [H2.out]
  go_wp2_with fail
  refine (zzIn b1 13875379345695965184 4652007308841189376 _).mono ?_
  rintro e w' ⟨rfl, rfl⟩
  rw [H3.out]
  go_wp2_with fail
  refine (zzIn b2 13875379345695965184 4652007308841189376 _).mono ?_
  rintro e w' ⟨rfl, rfl⟩
  rw [H4.out]
  go_wp2_with fail
  clear p1 p2
  refine (zzLab l a1 b2 _).mono ?_
  rintro e w1 ⟨X1, Y1, Z1, c1, rfl, hw1⟩
  have C1 := Lib.hid c1; clear c1
  go_wp2_with fail
  refine (zzLab l a2 b2 _).mono ?_
  rintro e w2 ⟨X2, Y2, Z2, c2, rfl, hw2⟩
  have C2 := Lib.hid c2; clear c2
  go_wp2_with fail
  refine (zzLab l a1 b1 _).mono ?_
  rintro e w3 ⟨X3, Y3, Z3, c3, rfl, hw3⟩
  obtain ⟨⟨rfl, rfl, rfl, rfl⟩, ⟨g1, g2, g3, g4, g5⟩, bx, bz, mx, mz⟩ := HG.out _ _ _ _ _ _ _ _ _ C1.out C2.out c3
  clear c3
  have o1 := order_self g3
  have o2 := order_self g4
  have o3 := order_self g1
  obtain ⟨s, p, t, e1, e2, e3, e4⟩ := slack g1 g2 bx mx
  obtain ⟨s', p', t', e1', e2', e3', e4'⟩ := slack g5 g4 bz mz
  have q1 := fun (ty : TypeId) (w : World) => run_float_arith (P := Try.prog) w .add ty .f64 _ _ _ e1
  have q2 := fun (ty : TypeId) (w : World) => run_float_arith (P := Try.prog) w .mul ty .f64 _ _ _ e2
  have q3 := fun (ty : TypeId) (w : World) => run_float_arith (P := Try.prog) w .add ty .f64 _ _ _ e3
  have q1' := fun (ty : TypeId) (w : World) => run_float_arith (P := Try.prog) w .add ty .f64 _ _ _ e1'
  have q2' := fun (ty : TypeId) (w : World) => run_float_arith (P := Try.prog) w .mul ty .f64 _ _ _ e2'
  have q3' := fun (ty : TypeId) (w : World) => run_float_arith (P := Try.prog) w .add ty .f64 _ _ _ e3'
  have HB := Lib.hid ((hw1.trans (hw2.mono hw1.size)).trans (hw3.mono (Nat.le_trans hw1.size hw2.size)))
  clear g1 g2 g3 g4 g5 bx bz mx mz e1 e2 e3 e1' e2' e3' hw1 hw2 hw3 C1 C2 HG
  go_wp2_with fail
  refine (zzAbs _ _).mono ?_
  rintro e w' ⟨rfl, rfl⟩
  go_wp2_with fail
  refine (zzAbs _ _).mono ?_
  rintro e w' ⟨rfl, rfl⟩
  go_wp2_with fail
  go_ret
  exact ⟨rfl, HB.out⟩

set_option maxRecDepth 100000 in
set_option maxHeartbeats 4000000 in
theorem wayTF (l a1 a2 b1 b2 : Nat) (w : World) (n0 : l < 2 ^ 64) (n1 : a1 < 2 ^ 64) (n2 : a2 < 2 ^ 64) (n3 : b1 < 2 ^ 64) (n4 : b2 < 2 ^ 64) (hl : inB l 13875379345695965184 4652007308841189376 = true) (ha1 : inB a1 13875379345695965184 4652007308841189376 = true) (ha2 : inB a2 13875379345695965184 4652007308841189376 = true) (hb1 : inB b1 13875379345695965184 4652007308841189376 = true) (hb2 : inB b2 13875379345695965184 4652007308841189376 = true)
    (p1 : (FloatKind.f64.format.order a1 a2 == some .gt) = true) (p2 : (FloatKind.f64.format.order b1 b2 == some .gt) = false) :
    Calls Try.prog 4 #[.float .f64 l, .float .f64 a1, .float .f64 a2, .float .f64 b1, .float .f64 b2] w fun e w' => e = .returned (.bool true) ∧ Below w.heap.size w w' := by
  have L := inB_true n0 hl
  have I1 := inB_true n1 ha1
  have I2 := inB_true n2 ha2
  have J1 := inB_true n3 hb1
  have J2 := inB_true n4 hb2
  have hA : rv a2 ≤ rv a1 := by have := (gt_iff I1.1 I2.1).symm.trans p1; simp at this; grind
  have hB : rv b1 ≤ rv b2 := by have := (gt_iff J1.1 J2.1).symm.trans p2; simp at this; grind
  have HG := Lib.hid (fun (X1 Y1 Z1 X2 Y2 Z2 X3 Y3 Z3 : Nat) (c1 : LabR l a2 b1 X1 Y1 Z1) (c2 : LabR l a1 b1 X2 Y2 Z2) (c3 : LabR l a2 b2 X3 Y3 Z3) => labs L I2 I1 J1 J2 hA hB c1 c2 c3)
  clear L I1 I2 J1 J2 hA hB n0 n1 n2 n3 n4
  have HL := Lib.hid hl; clear hl
  have H1 := Lib.hid ha1; clear ha1
  have H2 := Lib.hid ha2; clear ha2
  have H3 := Lib.hid hb1; clear hb1
  have H4 := Lib.hid hb2; clear hb2
  go_enter Try.func4, Try.ntmps4
  go_wp2_with fail
  refine (zzIn l 13875379345695965184 4652007308841189376 _).mono ?_
  rintro e w' ⟨rfl, rfl⟩
  rw [HL.out]
  go_wp2_with fail
  refine (zzIn a1 13875379345695965184 4652007308841189376 _).mono ?_
  rintro e w' ⟨rfl, rfl⟩
  rw [H1.out]
  go_wp2_with fail
  refine (zzIn a2 13875379345695965184 4652007308841189376 _).mono ?_
  rintro e w' ⟨rfl, rfl⟩
  rw [H2.out]
  go_wp2_with fail
  refine (zzIn b1 13875379345695965184 4652007308841189376 _).mono ?_
  rintro e w' ⟨rfl, rfl⟩
  rw [H3.out]
  go_wp2_with fail
  refine (zzIn b2 13875379345695965184 4652007308841189376 _).mono ?_
  rintro e w' ⟨rfl, rfl⟩
  rw [H4.out]
  go_wp2_with fail
  clear p1 p2
  refine (zzLab l a2 b1 _).mono ?_
  rintro e w1 ⟨X1, Y1, Z1, c1, rfl, hw1⟩
  have C1 := Lib.hid c1; clear c1
  go_wp2_with fail
  refine (zzLab l a1 b1 _).mono ?_
  rintro e w2 ⟨X2, Y2, Z2, c2, rfl, hw2⟩
  have C2 := Lib.hid c2; clear c2
  go_wp2_with fail
  refine (zzLab l a2 b2 _).mono ?_
  rintro e w3 ⟨X3, Y3, Z3, c3, rfl, hw3⟩
  obtain ⟨⟨rfl, rfl, rfl, rfl⟩, ⟨g1, g2, g3, g4, g5⟩, bx, bz, mx, mz⟩ := HG.out _ _ _ _ _ _ _ _ _ C1.out C2.out c3
  clear c3
  have o1 := order_self g3
  have o2 := order_self g4
  have o3 := order_self g1
  obtain ⟨s, p, t, e1, e2, e3, e4⟩ := slack g1 g2 bx mx
  obtain ⟨s', p', t', e1', e2', e3', e4'⟩ := slack g5 g4 bz mz
  have q1 := fun (ty : TypeId) (w : World) => run_float_arith (P := Try.prog) w .add ty .f64 _ _ _ e1
  have q2 := fun (ty : TypeId) (w : World) => run_float_arith (P := Try.prog) w .mul ty .f64 _ _ _ e2
  have q3 := fun (ty : TypeId) (w : World) => run_float_arith (P := Try.prog) w .add ty .f64 _ _ _ e3
  have q1' := fun (ty : TypeId) (w : World) => run_float_arith (P := Try.prog) w .add ty .f64 _ _ _ e1'
  have q2' := fun (ty : TypeId) (w : World) => run_float_arith (P := Try.prog) w .mul ty .f64 _ _ _ e2'
  have q3' := fun (ty : TypeId) (w : World) => run_float_arith (P := Try.prog) w .add ty .f64 _ _ _ e3'
  have HB := Lib.hid ((hw1.trans (hw2.mono hw1.size)).trans (hw3.mono (Nat.le_trans hw1.size hw2.size)))
  clear g1 g2 g3 g4 g5 bx bz mx mz e1 e2 e3 e1' e2' e3' hw1 hw2 hw3 C1 C2 HG
  go_wp2_with fail
  refine (zzAbs _ _).mono ?_
  rintro e w' ⟨rfl, rfl⟩
  go_wp2_with fail
  refine (zzAbs _ _).mono ?_
  rintro e w' ⟨rfl, rfl⟩
  go_wp2_with fail
  go_ret
  exact ⟨rfl, HB.out⟩

set_option maxRecDepth 100000 in
set_option maxHeartbeats 4000000 in
theorem wayTT (l a1 a2 b1 b2 : Nat) (w : World) (n0 : l < 2 ^ 64) (n1 : a1 < 2 ^ 64) (n2 : a2 < 2 ^ 64) (n3 : b1 < 2 ^ 64) (n4 : b2 < 2 ^ 64) (hl : inB l 13875379345695965184 4652007308841189376 = true) (ha1 : inB a1 13875379345695965184 4652007308841189376 = true) (ha2 : inB a2 13875379345695965184 4652007308841189376 = true) (hb1 : inB b1 13875379345695965184 4652007308841189376 = true) (hb2 : inB b2 13875379345695965184 4652007308841189376 = true)
    (p1 : (FloatKind.f64.format.order a1 a2 == some .gt) = true) (p2 : (FloatKind.f64.format.order b1 b2 == some .gt) = true) :
    Calls Try.prog 4 #[.float .f64 l, .float .f64 a1, .float .f64 a2, .float .f64 b1, .float .f64 b2] w fun e w' => e = .returned (.bool true) ∧ Below w.heap.size w w' := by
  have L := inB_true n0 hl
  have I1 := inB_true n1 ha1
  have I2 := inB_true n2 ha2
  have J1 := inB_true n3 hb1
  have J2 := inB_true n4 hb2
  have hA : rv a2 ≤ rv a1 := by have := (gt_iff I1.1 I2.1).symm.trans p1; simp at this; grind
  have hB : rv b2 ≤ rv b1 := by have := (gt_iff J1.1 J2.1).symm.trans p2; simp at this; grind
  have HG := Lib.hid (fun (X1 Y1 Z1 X2 Y2 Z2 X3 Y3 Z3 : Nat) (c1 : LabR l a2 b2 X1 Y1 Z1) (c2 : LabR l a1 b2 X2 Y2 Z2) (c3 : LabR l a2 b1 X3 Y3 Z3) => labs L I2 I1 J2 J1 hA hB c1 c2 c3)
  clear L I1 I2 J1 J2 hA hB n0 n1 n2 n3 n4
  have HL := Lib.hid hl; clear hl
  have H1 := Lib.hid ha1; clear ha1
  have H2 := Lib.hid ha2; clear ha2
  have H3 := Lib.hid hb1; clear hb1
  have H4 := Lib.hid hb2; clear hb2
  go_enter Try.func4, Try.ntmps4
  go_wp2_with fail
  refine (zzIn l 13875379345695965184 4652007308841189376 _).mono ?_
  rintro e w' ⟨rfl, rfl⟩
  rw [HL.out]
  go_wp2_with fail
  refine (zzIn a1 13875379345695965184 4652007308841189376 _).mono ?_
  rintro e w' ⟨rfl, rfl⟩
  rw [H1.out]
  go_wp2_with fail
  refine (zzIn a2 13875379345695965184 4652007308841189376 _).mono ?_
  rintro e w' ⟨rfl, rfl⟩
  rw [H2.out]
  go_wp2_with fail
  refine (zzIn b1 13875379345695965184 4652007308841189376 _).mono ?_
  rintro e w' ⟨rfl, rfl⟩
  rw [H3.out]
  go_wp2_with fail
  refine (zzIn b2 13875379345695965184 4652007308841189376 _).mono ?_
  rintro e w' ⟨rfl, rfl⟩
  rw [H4.out]
  go_wp2_with fail
  clear p1 p2
  refine (zzLab l a2 b2 _).mono ?_
  rintro e w1 ⟨X1, Y1, Z1, c1, rfl, hw1⟩
  have C1 := Lib.hid c1; clear c1
  go_wp2_with fail
  refine (zzLab l a1 b2 _).mono ?_
  rintro e w2 ⟨X2, Y2, Z2, c2, rfl, hw2⟩
  have C2 := Lib.hid c2; clear c2
  go_wp2_with fail
  refine (zzLab l a2 b1 _).mono ?_
  rintro e w3 ⟨X3, Y3, Z3, c3, rfl, hw3⟩
  obtain ⟨⟨rfl, rfl, rfl, rfl⟩, ⟨g1, g2, g3, g4, g5⟩, bx, bz, mx, mz⟩ := HG.out _ _ _ _ _ _ _ _ _ C1.out C2.out c3
  clear c3
  have o1 := order_self g3
  have o2 := order_self g4
  have o3 := order_self g1
  obtain ⟨s, p, t, e1, e2, e3, e4⟩ := slack g1 g2 bx mx
  obtain ⟨s', p', t', e1', e2', e3', e4'⟩ := slack g5 g4 bz mz
  have q1 := fun (ty : TypeId) (w : World) => run_float_arith (P := Try.prog) w .add ty .f64 _ _ _ e1
  have q2 := fun (ty : TypeId) (w : World) => run_float_arith (P := Try.prog) w .mul ty .f64 _ _ _ e2
  have q3 := fun (ty : TypeId) (w : World) => run_float_arith (P := Try.prog) w .add ty .f64 _ _ _ e3
  have q1' := fun (ty : TypeId) (w : World) => run_float_arith (P := Try.prog) w .add ty .f64 _ _ _ e1'
  have q2' := fun (ty : TypeId) (w : World) => run_float_arith (P := Try.prog) w .mul ty .f64 _ _ _ e2'
  have q3' := fun (ty : TypeId) (w : World) => run_float_arith (P := Try.prog) w .add ty .f64 _ _ _ e3'
  have HB := Lib.hid ((hw1.trans (hw2.mono hw1.size)).trans (hw3.mono (Nat.le_trans hw1.size hw2.size)))
  clear g1 g2 g3 g4 g5 bx bz mx mz e1 e2 e3 e1' e2' e3' hw1 hw2 hw3 C1 C2 HG
  go_wp2_with fail
  refine (zzAbs _ _).mono ?_
  rintro e w' ⟨rfl, rfl⟩
  go_wp2_with fail
  refine (zzAbs _ _).mono ?_
  rintro e w' ⟨rfl, rfl⟩
  go_wp2_with fail
  go_ret
  exact ⟨rfl, HB.out⟩

set_option maxRecDepth 100000 in
set_option maxHeartbeats 4000000 in
theorem law4 (l a1 a2 b1 b2 : Nat) (w : World) (_wl : (Lit.float .f64 l).wf = true) (_w1 : (Lit.float .f64 a1).wf = true) (_w2 : (Lit.float .f64 a2).wf = true) (_w3 : (Lit.float .f64 b1).wf = true) (_w4 : (Lit.float .f64 b2).wf = true) :
    Calls Try.prog 4 #[.float .f64 l, .float .f64 a1, .float .f64 a2, .float .f64 b1, .float .f64 b2] w fun e w' => e = .returned (.bool true) ∧ Below w.heap.size w w' := by
  have N0 : l < 2 ^ 64 := by simpa [Lit.wf, FloatKind.format] using _wl
  have N1 : a1 < 2 ^ 64 := by simpa [Lit.wf, FloatKind.format] using _w1
  have N2 : a2 < 2 ^ 64 := by simpa [Lit.wf, FloatKind.format] using _w2
  have N3 : b1 < 2 ^ 64 := by simpa [Lit.wf, FloatKind.format] using _w3
  have N4 : b2 < 2 ^ 64 := by simpa [Lit.wf, FloatKind.format] using _w4
  clear _wl _w1 _w2 _w3 _w4
  cases hl : inB l 13875379345695965184 4652007308841189376
  · have HL := Lib.hid hl; clear hl
    go_enter Try.func4, Try.ntmps4
    go_wp2_with fail
    refine (zzIn l 13875379345695965184 4652007308841189376 _).mono ?_
    rintro e w' ⟨rfl, rfl⟩
    rw [HL.out]
    go_wp2_with fail
    go_ret
    exact ⟨rfl, Below.refl _ _⟩
  cases ha1 : inB a1 13875379345695965184 4652007308841189376
  · have HL := Lib.hid hl; clear hl
    have H1 := Lib.hid ha1; clear ha1
    go_enter Try.func4, Try.ntmps4
    go_wp2_with fail
    refine (zzIn l 13875379345695965184 4652007308841189376 _).mono ?_
    rintro e w' ⟨rfl, rfl⟩
    rw [HL.out]
    go_wp2_with fail
    refine (zzIn a1 13875379345695965184 4652007308841189376 _).mono ?_
    rintro e w' ⟨rfl, rfl⟩
    rw [H1.out]
    go_wp2_with fail
    go_ret
    exact ⟨rfl, Below.refl _ _⟩
  cases ha2 : inB a2 13875379345695965184 4652007308841189376
  · have HL := Lib.hid hl; clear hl
    have H1 := Lib.hid ha1; clear ha1
    have H2 := Lib.hid ha2; clear ha2
    go_enter Try.func4, Try.ntmps4
    go_wp2_with fail
    refine (zzIn l 13875379345695965184 4652007308841189376 _).mono ?_
    rintro e w' ⟨rfl, rfl⟩
    rw [HL.out]
    go_wp2_with fail
    refine (zzIn a1 13875379345695965184 4652007308841189376 _).mono ?_
    rintro e w' ⟨rfl, rfl⟩
    rw [H1.out]
    go_wp2_with fail
    refine (zzIn a2 13875379345695965184 4652007308841189376 _).mono ?_
    rintro e w' ⟨rfl, rfl⟩
    rw [H2.out]
    go_wp2_with fail
    go_ret
    exact ⟨rfl, Below.refl _ _⟩
  cases hb1 : inB b1 13875379345695965184 4652007308841189376
  · have HL := Lib.hid hl; clear hl
    have H1 := Lib.hid ha1; clear ha1
    have H2 := Lib.hid ha2; clear ha2
    have H3 := Lib.hid hb1; clear hb1
    go_enter Try.func4, Try.ntmps4
    go_wp2_with fail
    refine (zzIn l 13875379345695965184 4652007308841189376 _).mono ?_
    rintro e w' ⟨rfl, rfl⟩
    rw [HL.out]
    go_wp2_with fail
    refine (zzIn a1 13875379345695965184 4652007308841189376 _).mono ?_
    rintro e w' ⟨rfl, rfl⟩
    rw [H1.out]
    go_wp2_with fail
    refine (zzIn a2 13875379345695965184 4652007308841189376 _).mono ?_
    rintro e w' ⟨rfl, rfl⟩
    rw [H2.out]
    go_wp2_with fail
    refine (zzIn b1 13875379345695965184 4652007308841189376 _).mono ?_
    rintro e w' ⟨rfl, rfl⟩
    rw [H3.out]
    go_wp2_with fail
    go_ret
    exact ⟨rfl, Below.refl _ _⟩
  cases hb2 : inB b2 13875379345695965184 4652007308841189376
  · have HL := Lib.hid hl; clear hl
    have H1 := Lib.hid ha1; clear ha1
    have H2 := Lib.hid ha2; clear ha2
    have H3 := Lib.hid hb1; clear hb1
    have H4 := Lib.hid hb2; clear hb2
    go_enter Try.func4, Try.ntmps4
    go_wp2_with fail
    refine (zzIn l 13875379345695965184 4652007308841189376 _).mono ?_
    rintro e w' ⟨rfl, rfl⟩
    rw [HL.out]
    go_wp2_with fail
    refine (zzIn a1 13875379345695965184 4652007308841189376 _).mono ?_
    rintro e w' ⟨rfl, rfl⟩
    rw [H1.out]
    go_wp2_with fail
    refine (zzIn a2 13875379345695965184 4652007308841189376 _).mono ?_
    rintro e w' ⟨rfl, rfl⟩
    rw [H2.out]
    go_wp2_with fail
    refine (zzIn b1 13875379345695965184 4652007308841189376 _).mono ?_
    rintro e w' ⟨rfl, rfl⟩
    rw [H3.out]
    go_wp2_with fail
    refine (zzIn b2 13875379345695965184 4652007308841189376 _).mono ?_
    rintro e w' ⟨rfl, rfl⟩
    rw [H4.out]
    go_wp2_with fail
    go_ret
    exact ⟨rfl, Below.refl _ _⟩
  cases p1 : (FloatKind.f64.format.order a1 a2 == some .gt)
  · cases p2 : (FloatKind.f64.format.order b1 b2 == some .gt)
    · exact wayFF l a1 a2 b1 b2 w N0 N1 N2 N3 N4 hl ha1 ha2 hb1 hb2 p1 p2
    · exact wayFT l a1 a2 b1 b2 w N0 N1 N2 N3 N4 hl ha1 ha2 hb1 hb2 p1 p2
  · cases p2 : (FloatKind.f64.format.order b1 b2 == some .gt)
    · exact wayTF l a1 a2 b1 b2 w N0 N1 N2 N3 N4 hl ha1 ha2 hb1 hb2 p1 p2
    · exact wayTT l a1 a2 b1 b2 w N0 N1 N2 N3 N4 hl ha1 ha2 hb1 hb2 p1 p2
end Go.Proofs.Ytkeagmiolapgpaa.F64
