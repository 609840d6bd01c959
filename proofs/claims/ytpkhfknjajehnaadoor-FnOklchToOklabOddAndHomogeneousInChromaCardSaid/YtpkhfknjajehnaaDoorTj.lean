/- FnOklchToOklabOddAndHomogeneousInChroma: the walk of the law. -/
import Derived.Test.YtpkhfknjajehnaaDoorTi
namespace Go.Proofs.YtpkhfknjajehnaaDoor.F64
open Go Go.RowKit Go.Lib Go.Proofs.YtpkhfknjajehnaaDoor.FL
set_option linter.unusedVariables false
set_option maxRecDepth 100000 in
set_option maxHeartbeats 1000000 in
theorem x1 (l c h A B A2 B2 : Nat) (w : World) (Z10 : ∀ W, Below w.heap.size w W → Calls Tryd.prog 4 #[.float .f64 l, .float .f64 c, .float .f64 h] W fun e w' => ∃ p q, e = .returned (.tuple #[.float .f64 l, .float .f64 p, .float .f64 q]) ∧ Eqv p A ∧ Eqv q B ∧ Below W.heap.size W w') (Z20 : ∀ W, Below w.heap.size w W → Calls Tryd.prog 4 #[.float .f64 l, .float .f64 (Op.negFloat .f64 c), .float .f64 h] W fun e w' => ∃ p q, e = .returned (.tuple #[.float .f64 l, .float .f64 p, .float .f64 q]) ∧ Eqv p A2 ∧ Eqv q B2 ∧ Below W.heap.size W w') (N10 : Eqv A2 (Op.negFloat .f64 A)) (N20 : Eqv B2 (Op.negFloat .f64 B))  (g0 : (geB c 18442240474082181119 && leB c 9218868437227405311) = false) (g1 : (FloatKind.f64.format.order (absAny c) 1614679632300144556 == some .gt || FloatKind.f64.format.order (absAny c) 1614679632300144556 == some .eq) = false) : Calls Tryd.prog 3 #[.float .f64 l, .float .f64 c, .float .f64 h] w fun e w' => e = .returned (.bool true) ∧ Below w.heap.size w w' := by
  have Z1 := Lib.hid Z10
  have Z2 := Lib.hid Z20
  have N1 := Lib.hid N10
  have N2 := Lib.hid N20
  clear Z10 Z20 N10 N20
  have bb : Below w.heap.size w w := Below.refl _ _
  go_enter Tryd.func3, Tryd.ntmps3
  go_wp2_with (first
    | (go_at_call 5; refine (same _ _ _ (by first | assumption | exact Eqv.refl _)).mono ?_; rintro e w' ⟨rfl, rfl⟩)
    | (go_at_call 7; refine (zzAbsAny _ _).mono ?_; rintro e w' ⟨rfl, rfl⟩)
    | (go_at_call 6; refine (zzFin _ _).mono ?_; rintro e w' ⟨rfl, rfl⟩))
  refine (Z1.out _ (by assumption)).mono ?_
  rintro e w1 ⟨p1, q1, rfl, ep1, eq1, bn⟩
  have bb := bb.trans (bn.mono bb.size)
  clear bn
  go_wp2_with (first
    | (go_at_call 5; refine (same _ _ _ (by first | assumption | exact Eqv.refl _)).mono ?_; rintro e w' ⟨rfl, rfl⟩)
    | (go_at_call 7; refine (zzAbsAny _ _).mono ?_; rintro e w' ⟨rfl, rfl⟩)
    | (go_at_call 6; refine (zzFin _ _).mono ?_; rintro e w' ⟨rfl, rfl⟩))
  refine (Z2.out _ (by assumption)).mono ?_
  rintro e w2 ⟨p2, q2, rfl, ep2, eq2, bn⟩
  have k1 := ep2.trans (N1.out.trans ep1.neg.symm)
  have k2 := eq2.trans (N2.out.trans eq1.neg.symm)
  have bb := bb.trans (bn.mono bb.size)
  clear bn
  go_wp2_with (first
    | (go_at_call 5; refine (same _ _ _ (by first | assumption | exact Eqv.refl _)).mono ?_; rintro e w' ⟨rfl, rfl⟩)
    | (go_at_call 7; refine (zzAbsAny _ _).mono ?_; rintro e w' ⟨rfl, rfl⟩)
    | (go_at_call 6; refine (zzFin _ _).mono ?_; rintro e w' ⟨rfl, rfl⟩))
  go_ret
  exact ⟨rfl, bb⟩
set_option maxRecDepth 100000 in
set_option maxHeartbeats 1000000 in
theorem x2 (l c h A B A2 B2 : Nat) (w : World) (Z10 : ∀ W, Below w.heap.size w W → Calls Tryd.prog 4 #[.float .f64 l, .float .f64 c, .float .f64 h] W fun e w' => ∃ p q, e = .returned (.tuple #[.float .f64 l, .float .f64 p, .float .f64 q]) ∧ Eqv p A ∧ Eqv q B ∧ Below W.heap.size W w') (Z20 : ∀ W, Below w.heap.size w W → Calls Tryd.prog 4 #[.float .f64 l, .float .f64 (Op.negFloat .f64 c), .float .f64 h] W fun e w' => ∃ p q, e = .returned (.tuple #[.float .f64 l, .float .f64 p, .float .f64 q]) ∧ Eqv p A2 ∧ Eqv q B2 ∧ Below W.heap.size W w') (N10 : Eqv A2 (Op.negFloat .f64 A)) (N20 : Eqv B2 (Op.negFloat .f64 B))  (g0 : (geB c 18442240474082181119 && leB c 9218868437227405311) = false) (g1 : (FloatKind.f64.format.order (absAny c) 1614679632300144556 == some .gt || FloatKind.f64.format.order (absAny c) 1614679632300144556 == some .eq) = true) (g2 : (FloatKind.f64.format.order (absAny c) 9094988921128908188 == some .lt || FloatKind.f64.format.order (absAny c) 9094988921128908188 == some .eq) = false) : Calls Tryd.prog 3 #[.float .f64 l, .float .f64 c, .float .f64 h] w fun e w' => e = .returned (.bool true) ∧ Below w.heap.size w w' := by
  have Z1 := Lib.hid Z10
  have Z2 := Lib.hid Z20
  have N1 := Lib.hid N10
  have N2 := Lib.hid N20
  clear Z10 Z20 N10 N20
  have bb : Below w.heap.size w w := Below.refl _ _
  go_enter Tryd.func3, Tryd.ntmps3
  go_wp2_with (first
    | (go_at_call 5; refine (same _ _ _ (by first | assumption | exact Eqv.refl _)).mono ?_; rintro e w' ⟨rfl, rfl⟩)
    | (go_at_call 7; refine (zzAbsAny _ _).mono ?_; rintro e w' ⟨rfl, rfl⟩)
    | (go_at_call 6; refine (zzFin _ _).mono ?_; rintro e w' ⟨rfl, rfl⟩))
  refine (Z1.out _ (by assumption)).mono ?_
  rintro e w1 ⟨p1, q1, rfl, ep1, eq1, bn⟩
  have bb := bb.trans (bn.mono bb.size)
  clear bn
  go_wp2_with (first
    | (go_at_call 5; refine (same _ _ _ (by first | assumption | exact Eqv.refl _)).mono ?_; rintro e w' ⟨rfl, rfl⟩)
    | (go_at_call 7; refine (zzAbsAny _ _).mono ?_; rintro e w' ⟨rfl, rfl⟩)
    | (go_at_call 6; refine (zzFin _ _).mono ?_; rintro e w' ⟨rfl, rfl⟩))
  refine (Z2.out _ (by assumption)).mono ?_
  rintro e w2 ⟨p2, q2, rfl, ep2, eq2, bn⟩
  have k1 := ep2.trans (N1.out.trans ep1.neg.symm)
  have k2 := eq2.trans (N2.out.trans eq1.neg.symm)
  have bb := bb.trans (bn.mono bb.size)
  clear bn
  go_wp2_with (first
    | (go_at_call 5; refine (same _ _ _ (by first | assumption | exact Eqv.refl _)).mono ?_; rintro e w' ⟨rfl, rfl⟩)
    | (go_at_call 7; refine (zzAbsAny _ _).mono ?_; rintro e w' ⟨rfl, rfl⟩)
    | (go_at_call 6; refine (zzFin _ _).mono ?_; rintro e w' ⟨rfl, rfl⟩))
  go_ret
  exact ⟨rfl, bb⟩
set_option maxRecDepth 100000 in
set_option maxHeartbeats 1000000 in
theorem x3 (l c h A B A2 B2 : Nat) (w : World) (Z10 : ∀ W, Below w.heap.size w W → Calls Tryd.prog 4 #[.float .f64 l, .float .f64 c, .float .f64 h] W fun e w' => ∃ p q, e = .returned (.tuple #[.float .f64 l, .float .f64 p, .float .f64 q]) ∧ Eqv p A ∧ Eqv q B ∧ Below W.heap.size W w') (Z20 : ∀ W, Below w.heap.size w W → Calls Tryd.prog 4 #[.float .f64 l, .float .f64 (Op.negFloat .f64 c), .float .f64 h] W fun e w' => ∃ p q, e = .returned (.tuple #[.float .f64 l, .float .f64 p, .float .f64 q]) ∧ Eqv p A2 ∧ Eqv q B2 ∧ Below W.heap.size W w') (N10 : Eqv A2 (Op.negFloat .f64 A)) (N20 : Eqv B2 (Op.negFloat .f64 B))  (g0 : (geB c 18442240474082181119 && leB c 9218868437227405311) = true) (g1 : (FloatKind.f64.format.order h 0 == some .eq) = false) (g2 : (FloatKind.f64.format.order (absAny c) 1614679632300144556 == some .gt || FloatKind.f64.format.order (absAny c) 1614679632300144556 == some .eq) = false) : Calls Tryd.prog 3 #[.float .f64 l, .float .f64 c, .float .f64 h] w fun e w' => e = .returned (.bool true) ∧ Below w.heap.size w w' := by
  have Z1 := Lib.hid Z10
  have Z2 := Lib.hid Z20
  have N1 := Lib.hid N10
  have N2 := Lib.hid N20
  clear Z10 Z20 N10 N20
  have bb : Below w.heap.size w w := Below.refl _ _
  go_enter Tryd.func3, Tryd.ntmps3
  go_wp2_with (first
    | (go_at_call 5; refine (same _ _ _ (by first | assumption | exact Eqv.refl _)).mono ?_; rintro e w' ⟨rfl, rfl⟩)
    | (go_at_call 7; refine (zzAbsAny _ _).mono ?_; rintro e w' ⟨rfl, rfl⟩)
    | (go_at_call 6; refine (zzFin _ _).mono ?_; rintro e w' ⟨rfl, rfl⟩))
  refine (Z1.out _ (by assumption)).mono ?_
  rintro e w1 ⟨p1, q1, rfl, ep1, eq1, bn⟩
  have bb := bb.trans (bn.mono bb.size)
  clear bn
  go_wp2_with (first
    | (go_at_call 5; refine (same _ _ _ (by first | assumption | exact Eqv.refl _)).mono ?_; rintro e w' ⟨rfl, rfl⟩)
    | (go_at_call 7; refine (zzAbsAny _ _).mono ?_; rintro e w' ⟨rfl, rfl⟩)
    | (go_at_call 6; refine (zzFin _ _).mono ?_; rintro e w' ⟨rfl, rfl⟩))
  refine (Z2.out _ (by assumption)).mono ?_
  rintro e w2 ⟨p2, q2, rfl, ep2, eq2, bn⟩
  have k1 := ep2.trans (N1.out.trans ep1.neg.symm)
  have k2 := eq2.trans (N2.out.trans eq1.neg.symm)
  have bb := bb.trans (bn.mono bb.size)
  clear bn
  go_wp2_with (first
    | (go_at_call 5; refine (same _ _ _ (by first | assumption | exact Eqv.refl _)).mono ?_; rintro e w' ⟨rfl, rfl⟩)
    | (go_at_call 7; refine (zzAbsAny _ _).mono ?_; rintro e w' ⟨rfl, rfl⟩)
    | (go_at_call 6; refine (zzFin _ _).mono ?_; rintro e w' ⟨rfl, rfl⟩))
  go_ret
  exact ⟨rfl, bb⟩
set_option maxRecDepth 100000 in
set_option maxHeartbeats 1000000 in
theorem x4 (l c h A B A2 B2 : Nat) (w : World) (Z10 : ∀ W, Below w.heap.size w W → Calls Tryd.prog 4 #[.float .f64 l, .float .f64 c, .float .f64 h] W fun e w' => ∃ p q, e = .returned (.tuple #[.float .f64 l, .float .f64 p, .float .f64 q]) ∧ Eqv p A ∧ Eqv q B ∧ Below W.heap.size W w') (Z20 : ∀ W, Below w.heap.size w W → Calls Tryd.prog 4 #[.float .f64 l, .float .f64 (Op.negFloat .f64 c), .float .f64 h] W fun e w' => ∃ p q, e = .returned (.tuple #[.float .f64 l, .float .f64 p, .float .f64 q]) ∧ Eqv p A2 ∧ Eqv q B2 ∧ Below W.heap.size W w') (N10 : Eqv A2 (Op.negFloat .f64 A)) (N20 : Eqv B2 (Op.negFloat .f64 B))  (g0 : (geB c 18442240474082181119 && leB c 9218868437227405311) = true) (g1 : (FloatKind.f64.format.order h 0 == some .eq) = false) (g2 : (FloatKind.f64.format.order (absAny c) 1614679632300144556 == some .gt || FloatKind.f64.format.order (absAny c) 1614679632300144556 == some .eq) = true) (g3 : (FloatKind.f64.format.order (absAny c) 9094988921128908188 == some .lt || FloatKind.f64.format.order (absAny c) 9094988921128908188 == some .eq) = false) : Calls Tryd.prog 3 #[.float .f64 l, .float .f64 c, .float .f64 h] w fun e w' => e = .returned (.bool true) ∧ Below w.heap.size w w' := by
  have Z1 := Lib.hid Z10
  have Z2 := Lib.hid Z20
  have N1 := Lib.hid N10
  have N2 := Lib.hid N20
  clear Z10 Z20 N10 N20
  have bb : Below w.heap.size w w := Below.refl _ _
  go_enter Tryd.func3, Tryd.ntmps3
  go_wp2_with (first
    | (go_at_call 5; refine (same _ _ _ (by first | assumption | exact Eqv.refl _)).mono ?_; rintro e w' ⟨rfl, rfl⟩)
    | (go_at_call 7; refine (zzAbsAny _ _).mono ?_; rintro e w' ⟨rfl, rfl⟩)
    | (go_at_call 6; refine (zzFin _ _).mono ?_; rintro e w' ⟨rfl, rfl⟩))
  refine (Z1.out _ (by assumption)).mono ?_
  rintro e w1 ⟨p1, q1, rfl, ep1, eq1, bn⟩
  have bb := bb.trans (bn.mono bb.size)
  clear bn
  go_wp2_with (first
    | (go_at_call 5; refine (same _ _ _ (by first | assumption | exact Eqv.refl _)).mono ?_; rintro e w' ⟨rfl, rfl⟩)
    | (go_at_call 7; refine (zzAbsAny _ _).mono ?_; rintro e w' ⟨rfl, rfl⟩)
    | (go_at_call 6; refine (zzFin _ _).mono ?_; rintro e w' ⟨rfl, rfl⟩))
  refine (Z2.out _ (by assumption)).mono ?_
  rintro e w2 ⟨p2, q2, rfl, ep2, eq2, bn⟩
  have k1 := ep2.trans (N1.out.trans ep1.neg.symm)
  have k2 := eq2.trans (N2.out.trans eq1.neg.symm)
  have bb := bb.trans (bn.mono bb.size)
  clear bn
  go_wp2_with (first
    | (go_at_call 5; refine (same _ _ _ (by first | assumption | exact Eqv.refl _)).mono ?_; rintro e w' ⟨rfl, rfl⟩)
    | (go_at_call 7; refine (zzAbsAny _ _).mono ?_; rintro e w' ⟨rfl, rfl⟩)
    | (go_at_call 6; refine (zzFin _ _).mono ?_; rintro e w' ⟨rfl, rfl⟩))
  go_ret
  exact ⟨rfl, bb⟩
set_option maxRecDepth 100000 in
set_option maxHeartbeats 1000000 in
theorem x5 (l c h A B A2 B2 : Nat) (w : World) (Z10 : ∀ W, Below w.heap.size w W → Calls Tryd.prog 4 #[.float .f64 l, .float .f64 c, .float .f64 h] W fun e w' => ∃ p q, e = .returned (.tuple #[.float .f64 l, .float .f64 p, .float .f64 q]) ∧ Eqv p A ∧ Eqv q B ∧ Below W.heap.size W w') (Z20 : ∀ W, Below w.heap.size w W → Calls Tryd.prog 4 #[.float .f64 l, .float .f64 (Op.negFloat .f64 c), .float .f64 h] W fun e w' => ∃ p q, e = .returned (.tuple #[.float .f64 l, .float .f64 p, .float .f64 q]) ∧ Eqv p A2 ∧ Eqv q B2 ∧ Below W.heap.size W w') (N10 : Eqv A2 (Op.negFloat .f64 A)) (N20 : Eqv B2 (Op.negFloat .f64 B))  (g0 : (geB c 18442240474082181119 && leB c 9218868437227405311) = true) (g1 : (FloatKind.f64.format.order h 0 == some .eq) = false) (g2 : (FloatKind.f64.format.order (absAny c) 1614679632300144556 == some .gt || FloatKind.f64.format.order (absAny c) 1614679632300144556 == some .eq) = true) (g3 : (FloatKind.f64.format.order (absAny c) 9094988921128908188 == some .lt || FloatKind.f64.format.order (absAny c) 9094988921128908188 == some .eq) = true) (g4 : (FloatKind.f64.format.order h 13920209183539462144 == some .gt || FloatKind.f64.format.order h 13920209183539462144 == some .eq) = false) : Calls Tryd.prog 3 #[.float .f64 l, .float .f64 c, .float .f64 h] w fun e w' => e = .returned (.bool true) ∧ Below w.heap.size w w' := by
  have Z1 := Lib.hid Z10
  have Z2 := Lib.hid Z20
  have N1 := Lib.hid N10
  have N2 := Lib.hid N20
  clear Z10 Z20 N10 N20
  have bb : Below w.heap.size w w := Below.refl _ _
  go_enter Tryd.func3, Tryd.ntmps3
  go_wp2_with (first
    | (go_at_call 5; refine (same _ _ _ (by first | assumption | exact Eqv.refl _)).mono ?_; rintro e w' ⟨rfl, rfl⟩)
    | (go_at_call 7; refine (zzAbsAny _ _).mono ?_; rintro e w' ⟨rfl, rfl⟩)
    | (go_at_call 6; refine (zzFin _ _).mono ?_; rintro e w' ⟨rfl, rfl⟩))
  refine (Z1.out _ (by assumption)).mono ?_
  rintro e w1 ⟨p1, q1, rfl, ep1, eq1, bn⟩
  have bb := bb.trans (bn.mono bb.size)
  clear bn
  go_wp2_with (first
    | (go_at_call 5; refine (same _ _ _ (by first | assumption | exact Eqv.refl _)).mono ?_; rintro e w' ⟨rfl, rfl⟩)
    | (go_at_call 7; refine (zzAbsAny _ _).mono ?_; rintro e w' ⟨rfl, rfl⟩)
    | (go_at_call 6; refine (zzFin _ _).mono ?_; rintro e w' ⟨rfl, rfl⟩))
  refine (Z2.out _ (by assumption)).mono ?_
  rintro e w2 ⟨p2, q2, rfl, ep2, eq2, bn⟩
  have k1 := ep2.trans (N1.out.trans ep1.neg.symm)
  have k2 := eq2.trans (N2.out.trans eq1.neg.symm)
  have bb := bb.trans (bn.mono bb.size)
  clear bn
  go_wp2_with (first
    | (go_at_call 5; refine (same _ _ _ (by first | assumption | exact Eqv.refl _)).mono ?_; rintro e w' ⟨rfl, rfl⟩)
    | (go_at_call 7; refine (zzAbsAny _ _).mono ?_; rintro e w' ⟨rfl, rfl⟩)
    | (go_at_call 6; refine (zzFin _ _).mono ?_; rintro e w' ⟨rfl, rfl⟩))
  go_ret
  exact ⟨rfl, bb⟩
set_option maxRecDepth 100000 in
set_option maxHeartbeats 1000000 in
theorem x6 (l c h A B A2 B2 : Nat) (w : World) (Z10 : ∀ W, Below w.heap.size w W → Calls Tryd.prog 4 #[.float .f64 l, .float .f64 c, .float .f64 h] W fun e w' => ∃ p q, e = .returned (.tuple #[.float .f64 l, .float .f64 p, .float .f64 q]) ∧ Eqv p A ∧ Eqv q B ∧ Below W.heap.size W w') (Z20 : ∀ W, Below w.heap.size w W → Calls Tryd.prog 4 #[.float .f64 l, .float .f64 (Op.negFloat .f64 c), .float .f64 h] W fun e w' => ∃ p q, e = .returned (.tuple #[.float .f64 l, .float .f64 p, .float .f64 q]) ∧ Eqv p A2 ∧ Eqv q B2 ∧ Below W.heap.size W w') (N10 : Eqv A2 (Op.negFloat .f64 A)) (N20 : Eqv B2 (Op.negFloat .f64 B))  (g0 : (geB c 18442240474082181119 && leB c 9218868437227405311) = true) (g1 : (FloatKind.f64.format.order h 0 == some .eq) = false) (g2 : (FloatKind.f64.format.order (absAny c) 1614679632300144556 == some .gt || FloatKind.f64.format.order (absAny c) 1614679632300144556 == some .eq) = true) (g3 : (FloatKind.f64.format.order (absAny c) 9094988921128908188 == some .lt || FloatKind.f64.format.order (absAny c) 9094988921128908188 == some .eq) = true) (g4 : (FloatKind.f64.format.order h 13920209183539462144 == some .gt || FloatKind.f64.format.order h 13920209183539462144 == some .eq) = true) (g5 : (FloatKind.f64.format.order h 4696837146684686336 == some .lt || FloatKind.f64.format.order h 4696837146684686336 == some .eq) = false) : Calls Tryd.prog 3 #[.float .f64 l, .float .f64 c, .float .f64 h] w fun e w' => e = .returned (.bool true) ∧ Below w.heap.size w w' := by
  have Z1 := Lib.hid Z10
  have Z2 := Lib.hid Z20
  have N1 := Lib.hid N10
  have N2 := Lib.hid N20
  clear Z10 Z20 N10 N20
  have bb : Below w.heap.size w w := Below.refl _ _
  go_enter Tryd.func3, Tryd.ntmps3
  go_wp2_with (first
    | (go_at_call 5; refine (same _ _ _ (by first | assumption | exact Eqv.refl _)).mono ?_; rintro e w' ⟨rfl, rfl⟩)
    | (go_at_call 7; refine (zzAbsAny _ _).mono ?_; rintro e w' ⟨rfl, rfl⟩)
    | (go_at_call 6; refine (zzFin _ _).mono ?_; rintro e w' ⟨rfl, rfl⟩))
  refine (Z1.out _ (by assumption)).mono ?_
  rintro e w1 ⟨p1, q1, rfl, ep1, eq1, bn⟩
  have bb := bb.trans (bn.mono bb.size)
  clear bn
  go_wp2_with (first
    | (go_at_call 5; refine (same _ _ _ (by first | assumption | exact Eqv.refl _)).mono ?_; rintro e w' ⟨rfl, rfl⟩)
    | (go_at_call 7; refine (zzAbsAny _ _).mono ?_; rintro e w' ⟨rfl, rfl⟩)
    | (go_at_call 6; refine (zzFin _ _).mono ?_; rintro e w' ⟨rfl, rfl⟩))
  refine (Z2.out _ (by assumption)).mono ?_
  rintro e w2 ⟨p2, q2, rfl, ep2, eq2, bn⟩
  have k1 := ep2.trans (N1.out.trans ep1.neg.symm)
  have k2 := eq2.trans (N2.out.trans eq1.neg.symm)
  have bb := bb.trans (bn.mono bb.size)
  clear bn
  go_wp2_with (first
    | (go_at_call 5; refine (same _ _ _ (by first | assumption | exact Eqv.refl _)).mono ?_; rintro e w' ⟨rfl, rfl⟩)
    | (go_at_call 7; refine (zzAbsAny _ _).mono ?_; rintro e w' ⟨rfl, rfl⟩)
    | (go_at_call 6; refine (zzFin _ _).mono ?_; rintro e w' ⟨rfl, rfl⟩))
  go_ret
  exact ⟨rfl, bb⟩
set_option maxRecDepth 100000 in
set_option maxHeartbeats 1000000 in
theorem x7 (l c h A B A2 B2 : Nat) (w : World) (Z10 : ∀ W, Below w.heap.size w W → Calls Tryd.prog 4 #[.float .f64 l, .float .f64 c, .float .f64 h] W fun e w' => ∃ p q, e = .returned (.tuple #[.float .f64 l, .float .f64 p, .float .f64 q]) ∧ Eqv p A ∧ Eqv q B ∧ Below W.heap.size W w') (Z20 : ∀ W, Below w.heap.size w W → Calls Tryd.prog 4 #[.float .f64 l, .float .f64 (Op.negFloat .f64 c), .float .f64 h] W fun e w' => ∃ p q, e = .returned (.tuple #[.float .f64 l, .float .f64 p, .float .f64 q]) ∧ Eqv p A2 ∧ Eqv q B2 ∧ Below W.heap.size W w') (N10 : Eqv A2 (Op.negFloat .f64 A)) (N20 : Eqv B2 (Op.negFloat .f64 B))  (g0 : (geB c 18442240474082181119 && leB c 9218868437227405311) = true) (g1 : (FloatKind.f64.format.order h 0 == some .eq) = false) (g2 : (FloatKind.f64.format.order (absAny c) 1614679632300144556 == some .gt || FloatKind.f64.format.order (absAny c) 1614679632300144556 == some .eq) = true) (g3 : (FloatKind.f64.format.order (absAny c) 9094988921128908188 == some .lt || FloatKind.f64.format.order (absAny c) 9094988921128908188 == some .eq) = true) (g4 : (FloatKind.f64.format.order h 13920209183539462144 == some .gt || FloatKind.f64.format.order h 13920209183539462144 == some .eq) = true) (g5 : (FloatKind.f64.format.order h 4696837146684686336 == some .lt || FloatKind.f64.format.order h 4696837146684686336 == some .eq) = true) (g6 : (FloatKind.f64.format.order (absAny h) 3260689527820848751 == some .gt || FloatKind.f64.format.order (absAny h) 3260689527820848751 == some .eq) = false) : Calls Tryd.prog 3 #[.float .f64 l, .float .f64 c, .float .f64 h] w fun e w' => e = .returned (.bool true) ∧ Below w.heap.size w w' := by
  have Z1 := Lib.hid Z10
  have Z2 := Lib.hid Z20
  have N1 := Lib.hid N10
  have N2 := Lib.hid N20
  clear Z10 Z20 N10 N20
  have bb : Below w.heap.size w w := Below.refl _ _
  go_enter Tryd.func3, Tryd.ntmps3
  go_wp2_with (first
    | (go_at_call 5; refine (same _ _ _ (by first | assumption | exact Eqv.refl _)).mono ?_; rintro e w' ⟨rfl, rfl⟩)
    | (go_at_call 7; refine (zzAbsAny _ _).mono ?_; rintro e w' ⟨rfl, rfl⟩)
    | (go_at_call 6; refine (zzFin _ _).mono ?_; rintro e w' ⟨rfl, rfl⟩))
  refine (Z1.out _ (by assumption)).mono ?_
  rintro e w1 ⟨p1, q1, rfl, ep1, eq1, bn⟩
  have bb := bb.trans (bn.mono bb.size)
  clear bn
  go_wp2_with (first
    | (go_at_call 5; refine (same _ _ _ (by first | assumption | exact Eqv.refl _)).mono ?_; rintro e w' ⟨rfl, rfl⟩)
    | (go_at_call 7; refine (zzAbsAny _ _).mono ?_; rintro e w' ⟨rfl, rfl⟩)
    | (go_at_call 6; refine (zzFin _ _).mono ?_; rintro e w' ⟨rfl, rfl⟩))
  refine (Z2.out _ (by assumption)).mono ?_
  rintro e w2 ⟨p2, q2, rfl, ep2, eq2, bn⟩
  have k1 := ep2.trans (N1.out.trans ep1.neg.symm)
  have k2 := eq2.trans (N2.out.trans eq1.neg.symm)
  have bb := bb.trans (bn.mono bb.size)
  clear bn
  go_wp2_with (first
    | (go_at_call 5; refine (same _ _ _ (by first | assumption | exact Eqv.refl _)).mono ?_; rintro e w' ⟨rfl, rfl⟩)
    | (go_at_call 7; refine (zzAbsAny _ _).mono ?_; rintro e w' ⟨rfl, rfl⟩)
    | (go_at_call 6; refine (zzFin _ _).mono ?_; rintro e w' ⟨rfl, rfl⟩))
  go_ret
  exact ⟨rfl, bb⟩
set_option maxRecDepth 100000 in
set_option maxHeartbeats 1000000 in
theorem e1 (l c h A B A2 B2 : Nat) (w : World) (Z10 : ∀ W, Below w.heap.size w W → Calls Tryd.prog 4 #[.float .f64 l, .float .f64 c, .float .f64 h] W fun e w' => e = .returned (.tuple #[.float .f64 l, .float .f64 A, .float .f64 B]) ∧ Below W.heap.size W w') (Z20 : ∀ W, Below w.heap.size w W → Calls Tryd.prog 4 #[.float .f64 l, .float .f64 (Op.negFloat .f64 c), .float .f64 h] W fun e w' => e = .returned (.tuple #[.float .f64 l, .float .f64 A2, .float .f64 B2]) ∧ Below W.heap.size W w') (N1 : Eqv A2 (Op.negFloat .f64 A)) (N2 : Eqv B2 (Op.negFloat .f64 B)) (z1 : (FloatKind.f64.format.order A c == some .eq) = true) (z2 : (FloatKind.f64.format.order B 0 == some .eq) = true) (g0 : (geB c 18442240474082181119 && leB c 9218868437227405311) = true) (g1 : (FloatKind.f64.format.order h 0 == some .eq) = true) (g2 : (FloatKind.f64.format.order (absAny c) 1614679632300144556 == some .gt || FloatKind.f64.format.order (absAny c) 1614679632300144556 == some .eq) = false) : Calls Tryd.prog 3 #[.float .f64 l, .float .f64 c, .float .f64 h] w fun e w' => e = .returned (.bool true) ∧ Below w.heap.size w w' := by
  have Z1 := Lib.hid Z10
  have Z2 := Lib.hid Z20
  clear Z10 Z20
  have bb : Below w.heap.size w w := Below.refl _ _
  go_enter Tryd.func3, Tryd.ntmps3
  go_wp2_with (first
    | (go_at_call 5; refine (same _ _ _ (by first | assumption | exact Eqv.refl _)).mono ?_; rintro e w' ⟨rfl, rfl⟩)
    | (go_at_call 7; refine (zzAbsAny _ _).mono ?_; rintro e w' ⟨rfl, rfl⟩)
    | (go_at_call 6; refine (zzFin _ _).mono ?_; rintro e w' ⟨rfl, rfl⟩))
  refine (Z1.out _ (by assumption)).mono ?_
  rintro e w1 ⟨rfl, bn⟩
  have bb := bb.trans (bn.mono bb.size)
  clear bn
  go_wp2_with (first
    | (go_at_call 5; refine (same _ _ _ (by first | assumption | exact Eqv.refl _)).mono ?_; rintro e w' ⟨rfl, rfl⟩)
    | (go_at_call 7; refine (zzAbsAny _ _).mono ?_; rintro e w' ⟨rfl, rfl⟩)
    | (go_at_call 6; refine (zzFin _ _).mono ?_; rintro e w' ⟨rfl, rfl⟩))
  refine (Z2.out _ (by assumption)).mono ?_
  rintro e w2 ⟨rfl, bn⟩
  have bb := bb.trans (bn.mono bb.size)
  clear bn
  go_wp2_with (first
    | (go_at_call 5; refine (same _ _ _ (by first | assumption | exact Eqv.refl _)).mono ?_; rintro e w' ⟨rfl, rfl⟩)
    | (go_at_call 7; refine (zzAbsAny _ _).mono ?_; rintro e w' ⟨rfl, rfl⟩)
    | (go_at_call 6; refine (zzFin _ _).mono ?_; rintro e w' ⟨rfl, rfl⟩))
  go_ret
  exact ⟨rfl, bb⟩
set_option maxRecDepth 100000 in
set_option maxHeartbeats 1000000 in
theorem e2 (l c h A B A2 B2 : Nat) (w : World) (Z10 : ∀ W, Below w.heap.size w W → Calls Tryd.prog 4 #[.float .f64 l, .float .f64 c, .float .f64 h] W fun e w' => e = .returned (.tuple #[.float .f64 l, .float .f64 A, .float .f64 B]) ∧ Below W.heap.size W w') (Z20 : ∀ W, Below w.heap.size w W → Calls Tryd.prog 4 #[.float .f64 l, .float .f64 (Op.negFloat .f64 c), .float .f64 h] W fun e w' => e = .returned (.tuple #[.float .f64 l, .float .f64 A2, .float .f64 B2]) ∧ Below W.heap.size W w') (N1 : Eqv A2 (Op.negFloat .f64 A)) (N2 : Eqv B2 (Op.negFloat .f64 B)) (z1 : (FloatKind.f64.format.order A c == some .eq) = true) (z2 : (FloatKind.f64.format.order B 0 == some .eq) = true) (g0 : (geB c 18442240474082181119 && leB c 9218868437227405311) = true) (g1 : (FloatKind.f64.format.order h 0 == some .eq) = true) (g2 : (FloatKind.f64.format.order (absAny c) 1614679632300144556 == some .gt || FloatKind.f64.format.order (absAny c) 1614679632300144556 == some .eq) = true) (g3 : (FloatKind.f64.format.order (absAny c) 9094988921128908188 == some .lt || FloatKind.f64.format.order (absAny c) 9094988921128908188 == some .eq) = false) : Calls Tryd.prog 3 #[.float .f64 l, .float .f64 c, .float .f64 h] w fun e w' => e = .returned (.bool true) ∧ Below w.heap.size w w' := by
  have Z1 := Lib.hid Z10
  have Z2 := Lib.hid Z20
  clear Z10 Z20
  have bb : Below w.heap.size w w := Below.refl _ _
  go_enter Tryd.func3, Tryd.ntmps3
  go_wp2_with (first
    | (go_at_call 5; refine (same _ _ _ (by first | assumption | exact Eqv.refl _)).mono ?_; rintro e w' ⟨rfl, rfl⟩)
    | (go_at_call 7; refine (zzAbsAny _ _).mono ?_; rintro e w' ⟨rfl, rfl⟩)
    | (go_at_call 6; refine (zzFin _ _).mono ?_; rintro e w' ⟨rfl, rfl⟩))
  refine (Z1.out _ (by assumption)).mono ?_
  rintro e w1 ⟨rfl, bn⟩
  have bb := bb.trans (bn.mono bb.size)
  clear bn
  go_wp2_with (first
    | (go_at_call 5; refine (same _ _ _ (by first | assumption | exact Eqv.refl _)).mono ?_; rintro e w' ⟨rfl, rfl⟩)
    | (go_at_call 7; refine (zzAbsAny _ _).mono ?_; rintro e w' ⟨rfl, rfl⟩)
    | (go_at_call 6; refine (zzFin _ _).mono ?_; rintro e w' ⟨rfl, rfl⟩))
  refine (Z2.out _ (by assumption)).mono ?_
  rintro e w2 ⟨rfl, bn⟩
  have bb := bb.trans (bn.mono bb.size)
  clear bn
  go_wp2_with (first
    | (go_at_call 5; refine (same _ _ _ (by first | assumption | exact Eqv.refl _)).mono ?_; rintro e w' ⟨rfl, rfl⟩)
    | (go_at_call 7; refine (zzAbsAny _ _).mono ?_; rintro e w' ⟨rfl, rfl⟩)
    | (go_at_call 6; refine (zzFin _ _).mono ?_; rintro e w' ⟨rfl, rfl⟩))
  go_ret
  exact ⟨rfl, bb⟩
set_option maxRecDepth 100000 in
set_option maxHeartbeats 1000000 in
theorem e3 (l c h A B A2 B2 : Nat) (w : World) (Z10 : ∀ W, Below w.heap.size w W → Calls Tryd.prog 4 #[.float .f64 l, .float .f64 c, .float .f64 h] W fun e w' => e = .returned (.tuple #[.float .f64 l, .float .f64 A, .float .f64 B]) ∧ Below W.heap.size W w') (Z20 : ∀ W, Below w.heap.size w W → Calls Tryd.prog 4 #[.float .f64 l, .float .f64 (Op.negFloat .f64 c), .float .f64 h] W fun e w' => e = .returned (.tuple #[.float .f64 l, .float .f64 A2, .float .f64 B2]) ∧ Below W.heap.size W w') (N1 : Eqv A2 (Op.negFloat .f64 A)) (N2 : Eqv B2 (Op.negFloat .f64 B)) (z1 : (FloatKind.f64.format.order A c == some .eq) = true) (z2 : (FloatKind.f64.format.order B 0 == some .eq) = true) (g0 : (geB c 18442240474082181119 && leB c 9218868437227405311) = true) (g1 : (FloatKind.f64.format.order h 0 == some .eq) = true) (g2 : (FloatKind.f64.format.order (absAny c) 1614679632300144556 == some .gt || FloatKind.f64.format.order (absAny c) 1614679632300144556 == some .eq) = true) (g3 : (FloatKind.f64.format.order (absAny c) 9094988921128908188 == some .lt || FloatKind.f64.format.order (absAny c) 9094988921128908188 == some .eq) = true) (g4 : (FloatKind.f64.format.order h 13920209183539462144 == some .gt || FloatKind.f64.format.order h 13920209183539462144 == some .eq) = false) : Calls Tryd.prog 3 #[.float .f64 l, .float .f64 c, .float .f64 h] w fun e w' => e = .returned (.bool true) ∧ Below w.heap.size w w' := by
  have Z1 := Lib.hid Z10
  have Z2 := Lib.hid Z20
  clear Z10 Z20
  have bb : Below w.heap.size w w := Below.refl _ _
  go_enter Tryd.func3, Tryd.ntmps3
  go_wp2_with (first
    | (go_at_call 5; refine (same _ _ _ (by first | assumption | exact Eqv.refl _)).mono ?_; rintro e w' ⟨rfl, rfl⟩)
    | (go_at_call 7; refine (zzAbsAny _ _).mono ?_; rintro e w' ⟨rfl, rfl⟩)
    | (go_at_call 6; refine (zzFin _ _).mono ?_; rintro e w' ⟨rfl, rfl⟩))
  refine (Z1.out _ (by assumption)).mono ?_
  rintro e w1 ⟨rfl, bn⟩
  have bb := bb.trans (bn.mono bb.size)
  clear bn
  go_wp2_with (first
    | (go_at_call 5; refine (same _ _ _ (by first | assumption | exact Eqv.refl _)).mono ?_; rintro e w' ⟨rfl, rfl⟩)
    | (go_at_call 7; refine (zzAbsAny _ _).mono ?_; rintro e w' ⟨rfl, rfl⟩)
    | (go_at_call 6; refine (zzFin _ _).mono ?_; rintro e w' ⟨rfl, rfl⟩))
  refine (Z2.out _ (by assumption)).mono ?_
  rintro e w2 ⟨rfl, bn⟩
  have bb := bb.trans (bn.mono bb.size)
  clear bn
  go_wp2_with (first
    | (go_at_call 5; refine (same _ _ _ (by first | assumption | exact Eqv.refl _)).mono ?_; rintro e w' ⟨rfl, rfl⟩)
    | (go_at_call 7; refine (zzAbsAny _ _).mono ?_; rintro e w' ⟨rfl, rfl⟩)
    | (go_at_call 6; refine (zzFin _ _).mono ?_; rintro e w' ⟨rfl, rfl⟩))
  go_ret
  exact ⟨rfl, bb⟩
set_option maxRecDepth 100000 in
set_option maxHeartbeats 1000000 in
theorem e4 (l c h A B A2 B2 : Nat) (w : World) (Z10 : ∀ W, Below w.heap.size w W → Calls Tryd.prog 4 #[.float .f64 l, .float .f64 c, .float .f64 h] W fun e w' => e = .returned (.tuple #[.float .f64 l, .float .f64 A, .float .f64 B]) ∧ Below W.heap.size W w') (Z20 : ∀ W, Below w.heap.size w W → Calls Tryd.prog 4 #[.float .f64 l, .float .f64 (Op.negFloat .f64 c), .float .f64 h] W fun e w' => e = .returned (.tuple #[.float .f64 l, .float .f64 A2, .float .f64 B2]) ∧ Below W.heap.size W w') (N1 : Eqv A2 (Op.negFloat .f64 A)) (N2 : Eqv B2 (Op.negFloat .f64 B)) (z1 : (FloatKind.f64.format.order A c == some .eq) = true) (z2 : (FloatKind.f64.format.order B 0 == some .eq) = true) (g0 : (geB c 18442240474082181119 && leB c 9218868437227405311) = true) (g1 : (FloatKind.f64.format.order h 0 == some .eq) = true) (g2 : (FloatKind.f64.format.order (absAny c) 1614679632300144556 == some .gt || FloatKind.f64.format.order (absAny c) 1614679632300144556 == some .eq) = true) (g3 : (FloatKind.f64.format.order (absAny c) 9094988921128908188 == some .lt || FloatKind.f64.format.order (absAny c) 9094988921128908188 == some .eq) = true) (g4 : (FloatKind.f64.format.order h 13920209183539462144 == some .gt || FloatKind.f64.format.order h 13920209183539462144 == some .eq) = true) (g5 : (FloatKind.f64.format.order h 4696837146684686336 == some .lt || FloatKind.f64.format.order h 4696837146684686336 == some .eq) = false) : Calls Tryd.prog 3 #[.float .f64 l, .float .f64 c, .float .f64 h] w fun e w' => e = .returned (.bool true) ∧ Below w.heap.size w w' := by
  have Z1 := Lib.hid Z10
  have Z2 := Lib.hid Z20
  clear Z10 Z20
  have bb : Below w.heap.size w w := Below.refl _ _
  go_enter Tryd.func3, Tryd.ntmps3
  go_wp2_with (first
    | (go_at_call 5; refine (same _ _ _ (by first | assumption | exact Eqv.refl _)).mono ?_; rintro e w' ⟨rfl, rfl⟩)
    | (go_at_call 7; refine (zzAbsAny _ _).mono ?_; rintro e w' ⟨rfl, rfl⟩)
    | (go_at_call 6; refine (zzFin _ _).mono ?_; rintro e w' ⟨rfl, rfl⟩))
  refine (Z1.out _ (by assumption)).mono ?_
  rintro e w1 ⟨rfl, bn⟩
  have bb := bb.trans (bn.mono bb.size)
  clear bn
  go_wp2_with (first
    | (go_at_call 5; refine (same _ _ _ (by first | assumption | exact Eqv.refl _)).mono ?_; rintro e w' ⟨rfl, rfl⟩)
    | (go_at_call 7; refine (zzAbsAny _ _).mono ?_; rintro e w' ⟨rfl, rfl⟩)
    | (go_at_call 6; refine (zzFin _ _).mono ?_; rintro e w' ⟨rfl, rfl⟩))
  refine (Z2.out _ (by assumption)).mono ?_
  rintro e w2 ⟨rfl, bn⟩
  have bb := bb.trans (bn.mono bb.size)
  clear bn
  go_wp2_with (first
    | (go_at_call 5; refine (same _ _ _ (by first | assumption | exact Eqv.refl _)).mono ?_; rintro e w' ⟨rfl, rfl⟩)
    | (go_at_call 7; refine (zzAbsAny _ _).mono ?_; rintro e w' ⟨rfl, rfl⟩)
    | (go_at_call 6; refine (zzFin _ _).mono ?_; rintro e w' ⟨rfl, rfl⟩))
  go_ret
  exact ⟨rfl, bb⟩
set_option maxRecDepth 100000 in
set_option maxHeartbeats 1000000 in
theorem f1 (l c h cc A B A2 B2 A3 B3 d d' : Nat) (w : World) (Z10 : ∀ W, Below w.heap.size w W → Calls Tryd.prog 4 #[.float .f64 l, .float .f64 c, .float .f64 h] W fun e w' => e = .returned (.tuple #[.float .f64 l, .float .f64 A, .float .f64 B]) ∧ Below W.heap.size W w') (Z20 : ∀ W, Below w.heap.size w W → Calls Tryd.prog 4 #[.float .f64 l, .float .f64 (Op.negFloat .f64 c), .float .f64 h] W fun e w' => e = .returned (.tuple #[.float .f64 l, .float .f64 A2, .float .f64 B2]) ∧ Below W.heap.size W w') (N1 : Eqv A2 (Op.negFloat .f64 A)) (N2 : Eqv B2 (Op.negFloat .f64 B)) (Z30 : ∀ W, Below w.heap.size w W → Calls Tryd.prog 4 #[.float .f64 l, .float .f64 cc, .float .f64 h] W fun e w' => e = .returned (.tuple #[.float .f64 l, .float .f64 A3, .float .f64 B3]) ∧ Below W.heap.size W w') (M1 : ∀ (t : TypeId) (w : World), (binOp .mul t (.float .f64 4611686018427387904) (.float .f64 c)).run Tryd.prog w = .ok (.float .f64 cc) w) (M2 : ∀ (t : TypeId) (w : World), (binOp .mul t (.float .f64 4611686018427387904) (.float .f64 A)).run Tryd.prog w = .ok (.float .f64 d) w) (M3 : ∀ (t : TypeId) (w : World), (binOp .mul t (.float .f64 4611686018427387904) (.float .f64 B)).run Tryd.prog w = .ok (.float .f64 d') w) (q1 : (FloatKind.f64.format.order A3 d == some .eq) = true) (q2 : (FloatKind.f64.format.order B3 d' == some .eq) = true) (z1 : (FloatKind.f64.format.order A c == some .eq) = true) (z2 : (FloatKind.f64.format.order B 0 == some .eq) = true) (g0 : (geB c 18442240474082181119 && leB c 9218868437227405311) = true) (g1 : (FloatKind.f64.format.order h 0 == some .eq) = true) (g2 : (FloatKind.f64.format.order (absAny c) 1614679632300144556 == some .gt || FloatKind.f64.format.order (absAny c) 1614679632300144556 == some .eq) = true) (g3 : (FloatKind.f64.format.order (absAny c) 9094988921128908188 == some .lt || FloatKind.f64.format.order (absAny c) 9094988921128908188 == some .eq) = true) (g4 : (FloatKind.f64.format.order h 13920209183539462144 == some .gt || FloatKind.f64.format.order h 13920209183539462144 == some .eq) = true) (g5 : (FloatKind.f64.format.order h 4696837146684686336 == some .lt || FloatKind.f64.format.order h 4696837146684686336 == some .eq) = true) : Calls Tryd.prog 3 #[.float .f64 l, .float .f64 c, .float .f64 h] w fun e w' => e = .returned (.bool true) ∧ Below w.heap.size w w' := by
  have Z1 := Lib.hid Z10
  have Z2 := Lib.hid Z20
  have Z3 := Lib.hid Z30
  clear Z10 Z20 Z30
  have bb : Below w.heap.size w w := Below.refl _ _
  go_enter Tryd.func3, Tryd.ntmps3
  go_wp2_with (first
    | (go_at_call 5; refine (same _ _ _ (by first | assumption | exact Eqv.refl _)).mono ?_; rintro e w' ⟨rfl, rfl⟩)
    | (go_at_call 7; refine (zzAbsAny _ _).mono ?_; rintro e w' ⟨rfl, rfl⟩)
    | (go_at_call 6; refine (zzFin _ _).mono ?_; rintro e w' ⟨rfl, rfl⟩))
  refine (Z1.out _ (by assumption)).mono ?_
  rintro e w1 ⟨rfl, bn⟩
  have bb := bb.trans (bn.mono bb.size)
  clear bn
  go_wp2_with (first
    | (go_at_call 5; refine (same _ _ _ (by first | assumption | exact Eqv.refl _)).mono ?_; rintro e w' ⟨rfl, rfl⟩)
    | (go_at_call 7; refine (zzAbsAny _ _).mono ?_; rintro e w' ⟨rfl, rfl⟩)
    | (go_at_call 6; refine (zzFin _ _).mono ?_; rintro e w' ⟨rfl, rfl⟩))
  refine (Z2.out _ (by assumption)).mono ?_
  rintro e w2 ⟨rfl, bn⟩
  have bb := bb.trans (bn.mono bb.size)
  clear bn
  go_wp2_with (first
    | (go_at_call 5; refine (same _ _ _ (by first | assumption | exact Eqv.refl _)).mono ?_; rintro e w' ⟨rfl, rfl⟩)
    | (go_at_call 7; refine (zzAbsAny _ _).mono ?_; rintro e w' ⟨rfl, rfl⟩)
    | (go_at_call 6; refine (zzFin _ _).mono ?_; rintro e w' ⟨rfl, rfl⟩))
  refine (Z3.out _ (by assumption)).mono ?_
  rintro e w3 ⟨rfl, bn⟩
  have bb := bb.trans (bn.mono bb.size)
  clear bn
  go_wp2_with (first
    | (go_at_call 5; refine (same _ _ _ (by first | assumption | exact Eqv.refl _)).mono ?_; rintro e w' ⟨rfl, rfl⟩)
    | (go_at_call 7; refine (zzAbsAny _ _).mono ?_; rintro e w' ⟨rfl, rfl⟩)
    | (go_at_call 6; refine (zzFin _ _).mono ?_; rintro e w' ⟨rfl, rfl⟩))
  go_ret
  exact ⟨rfl, bb⟩
set_option maxRecDepth 100000 in
set_option maxHeartbeats 1000000 in
theorem f2 (l c h cc A B A2 B2 A3 B3 d d' : Nat) (w : World) (Z10 : ∀ W, Below w.heap.size w W → Calls Tryd.prog 4 #[.float .f64 l, .float .f64 c, .float .f64 h] W fun e w' => e = .returned (.tuple #[.float .f64 l, .float .f64 A, .float .f64 B]) ∧ Below W.heap.size W w') (Z20 : ∀ W, Below w.heap.size w W → Calls Tryd.prog 4 #[.float .f64 l, .float .f64 (Op.negFloat .f64 c), .float .f64 h] W fun e w' => e = .returned (.tuple #[.float .f64 l, .float .f64 A2, .float .f64 B2]) ∧ Below W.heap.size W w') (N1 : Eqv A2 (Op.negFloat .f64 A)) (N2 : Eqv B2 (Op.negFloat .f64 B)) (Z30 : ∀ W, Below w.heap.size w W → Calls Tryd.prog 4 #[.float .f64 l, .float .f64 cc, .float .f64 h] W fun e w' => e = .returned (.tuple #[.float .f64 l, .float .f64 A3, .float .f64 B3]) ∧ Below W.heap.size W w') (M1 : ∀ (t : TypeId) (w : World), (binOp .mul t (.float .f64 4611686018427387904) (.float .f64 c)).run Tryd.prog w = .ok (.float .f64 cc) w) (M2 : ∀ (t : TypeId) (w : World), (binOp .mul t (.float .f64 4611686018427387904) (.float .f64 A)).run Tryd.prog w = .ok (.float .f64 d) w) (M3 : ∀ (t : TypeId) (w : World), (binOp .mul t (.float .f64 4611686018427387904) (.float .f64 B)).run Tryd.prog w = .ok (.float .f64 d') w) (q1 : (FloatKind.f64.format.order A3 d == some .eq) = true) (q2 : (FloatKind.f64.format.order B3 d' == some .eq) = true)  (g0 : (geB c 18442240474082181119 && leB c 9218868437227405311) = true) (g1 : (FloatKind.f64.format.order h 0 == some .eq) = false) (g2 : (FloatKind.f64.format.order (absAny c) 1614679632300144556 == some .gt || FloatKind.f64.format.order (absAny c) 1614679632300144556 == some .eq) = true) (g3 : (FloatKind.f64.format.order (absAny c) 9094988921128908188 == some .lt || FloatKind.f64.format.order (absAny c) 9094988921128908188 == some .eq) = true) (g4 : (FloatKind.f64.format.order h 13920209183539462144 == some .gt || FloatKind.f64.format.order h 13920209183539462144 == some .eq) = true) (g5 : (FloatKind.f64.format.order h 4696837146684686336 == some .lt || FloatKind.f64.format.order h 4696837146684686336 == some .eq) = true) (g6 : (FloatKind.f64.format.order (absAny h) 3260689527820848751 == some .gt || FloatKind.f64.format.order (absAny h) 3260689527820848751 == some .eq) = true) : Calls Tryd.prog 3 #[.float .f64 l, .float .f64 c, .float .f64 h] w fun e w' => e = .returned (.bool true) ∧ Below w.heap.size w w' := by
  have Z1 := Lib.hid Z10
  have Z2 := Lib.hid Z20
  have Z3 := Lib.hid Z30
  clear Z10 Z20 Z30
  have bb : Below w.heap.size w w := Below.refl _ _
  go_enter Tryd.func3, Tryd.ntmps3
  go_wp2_with (first
    | (go_at_call 5; refine (same _ _ _ (by first | assumption | exact Eqv.refl _)).mono ?_; rintro e w' ⟨rfl, rfl⟩)
    | (go_at_call 7; refine (zzAbsAny _ _).mono ?_; rintro e w' ⟨rfl, rfl⟩)
    | (go_at_call 6; refine (zzFin _ _).mono ?_; rintro e w' ⟨rfl, rfl⟩))
  refine (Z1.out _ (by assumption)).mono ?_
  rintro e w1 ⟨rfl, bn⟩
  have bb := bb.trans (bn.mono bb.size)
  clear bn
  go_wp2_with (first
    | (go_at_call 5; refine (same _ _ _ (by first | assumption | exact Eqv.refl _)).mono ?_; rintro e w' ⟨rfl, rfl⟩)
    | (go_at_call 7; refine (zzAbsAny _ _).mono ?_; rintro e w' ⟨rfl, rfl⟩)
    | (go_at_call 6; refine (zzFin _ _).mono ?_; rintro e w' ⟨rfl, rfl⟩))
  refine (Z2.out _ (by assumption)).mono ?_
  rintro e w2 ⟨rfl, bn⟩
  have bb := bb.trans (bn.mono bb.size)
  clear bn
  go_wp2_with (first
    | (go_at_call 5; refine (same _ _ _ (by first | assumption | exact Eqv.refl _)).mono ?_; rintro e w' ⟨rfl, rfl⟩)
    | (go_at_call 7; refine (zzAbsAny _ _).mono ?_; rintro e w' ⟨rfl, rfl⟩)
    | (go_at_call 6; refine (zzFin _ _).mono ?_; rintro e w' ⟨rfl, rfl⟩))
  refine (Z3.out _ (by assumption)).mono ?_
  rintro e w3 ⟨rfl, bn⟩
  have bb := bb.trans (bn.mono bb.size)
  clear bn
  go_wp2_with (first
    | (go_at_call 5; refine (same _ _ _ (by first | assumption | exact Eqv.refl _)).mono ?_; rintro e w' ⟨rfl, rfl⟩)
    | (go_at_call 7; refine (zzAbsAny _ _).mono ?_; rintro e w' ⟨rfl, rfl⟩)
    | (go_at_call 6; refine (zzFin _ _).mono ?_; rintro e w' ⟨rfl, rfl⟩))
  go_ret
  exact ⟨rfl, bb⟩
end Go.Proofs.YtpkhfknjajehnaaDoor.F64
