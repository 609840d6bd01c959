/- math.cos of moderate numbers, walked. -/
import Derived.Test.YtnkpcjmmingkkaaDoorSin
namespace Go.Proofs.YtnkpcjmmingkkaaDoor.F64
open Go Go.RowKit Go.Lib Go.Proofs.YtnkpcjmmingkkaaDoor.FL
set_option linter.unusedVariables false
def cosO (o : Int) (z : Nat) : Nat := sg? (decide (o = 2 ∨ o = 4)) (if o = 2 ∨ o = 6 then sinT z else cosT z)
set_option maxRecDepth 100000 in
set_option maxHeartbeats 4000000 in
theorem cosM (x ax z : Nat) (o : Int) (w : World) (hT : SC w) (n1 : (FloatKind.f64.format.order x x != some .eq) = false) (n2 : ∀ W, Calls Tryd.prog 35 #[.float .f64 x, .int .i64 0] W (fun e w' => e = .returned (.bool false) ∧ W = w'))
    (n3 : ∀ W, Calls Tryd.prog 37 #[.float .f64 x] W (fun e w' => e = .returned (.float .f64 ax) ∧ W = w')) (ht : (FloatKind.f64.format.order ax 4737786807993761792 == some .gt || FloatKind.f64.format.order ax 4737786807993761792 == some .eq) = false) (hr : Red ax o z) :
    Calls Tryd.prog 28 #[.float .f64 x] (w.drewN 0) (FP (cosO o z) w) := by
  obtain ⟨⟨m1, y, J, p, ya, r1, yb, r2, yc, f1, f2, J0, J1, hp, f3, f4, f5, f6, f7, f8⟩, ho⟩ := hr
  have g1 := fun (t : TypeId) (w : World) => run_float_arith (P := Tryd.prog) w .mul t .f64 _ _ _ f1
  have g2 := fun (w : World) => run_convert_float_int (P := Tryd.prog) w 22 39 .f64 .u64 _ _ (by kernel_rfl) Tryd.underlying39 f2
  have g3 := fun (t : TypeId) (w : World) => run_float_arith (P := Tryd.prog) w .mul t .f64 _ _ _ f3
  have g4 := fun (t : TypeId) (w : World) => run_float_arith (P := Tryd.prog) w .sub t .f64 _ _ _ f4
  have g5 := fun (t : TypeId) (w : World) => run_float_arith (P := Tryd.prog) w .mul t .f64 _ _ _ f5
  have g6 := fun (t : TypeId) (w : World) => run_float_arith (P := Tryd.prog) w .sub t .f64 _ _ _ f6
  have g7 := fun (t : TypeId) (w : World) => run_float_arith (P := Tryd.prog) w .mul t .f64 _ _ _ f7
  have g8 := fun (t : TypeId) (w : World) => run_float_arith (P := Tryd.prog) w .sub t .f64 _ _ _ f8
  have N2 := Lib.hid n2
  have N3 := Lib.hid n3
  have N1 := Lib.hid (fun W => (show Calls Tryd.prog 34 #[.float .f64 x] W (fun e w' => e = .returned (.bool false) ∧ W = w') by have h := isNaN x W; rw [n1] at h; exact h))
  have HT := Lib.hid hT
  have EZ : Eqv z z := Eqv.refl z
  clear f1 f2 f3 f4 f5 f6 f7 f8 n2 n3 hT
  have A0 : ∀ m, (w.drewN m).cell? ⟨GS, 0, none⟩ = some (.float .f64 s0) := fun _ => HT.out.a0
  have A1 : ∀ m, (w.drewN m).cell? ⟨GS, 1, none⟩ = some (.float .f64 s1) := fun _ => HT.out.a1
  have A2 : ∀ m, (w.drewN m).cell? ⟨GS, 2, none⟩ = some (.float .f64 s2) := fun _ => HT.out.a2
  have A3 : ∀ m, (w.drewN m).cell? ⟨GS, 3, none⟩ = some (.float .f64 s3) := fun _ => HT.out.a3
  have A4 : ∀ m, (w.drewN m).cell? ⟨GS, 4, none⟩ = some (.float .f64 s4) := fun _ => HT.out.a4
  have A5 : ∀ m, (w.drewN m).cell? ⟨GS, 5, none⟩ = some (.float .f64 s5) := fun _ => HT.out.a5
  have B0 : ∀ m, (w.drewN m).cell? ⟨GC, 0, none⟩ = some (.float .f64 c0) := fun _ => HT.out.b0
  have B1 : ∀ m, (w.drewN m).cell? ⟨GC, 1, none⟩ = some (.float .f64 c1) := fun _ => HT.out.b1
  have B2 : ∀ m, (w.drewN m).cell? ⟨GC, 2, none⟩ = some (.float .f64 c2) := fun _ => HT.out.b2
  have B3 : ∀ m, (w.drewN m).cell? ⟨GC, 3, none⟩ = some (.float .f64 c3) := fun _ => HT.out.b3
  have B4 : ∀ m, (w.drewN m).cell? ⟨GC, 4, none⟩ = some (.float .f64 c4) := fun _ => HT.out.b4
  have B5 : ∀ m, (w.drewN m).cell? ⟨GC, 5, none⟩ = some (.float .f64 c5) := fun _ => HT.out.b5
  have hng := fun b => unary_negf .f64 b
  clear n1 HT
  have key : ∃ hb1 : bits .and .u64 J 1 = (if p then 1 else 0), bits .and .u64 (if p then J + 1 else J) 7 = o ∧ (∀ (t : TypeId) (w : World), p = true → (binOp .add t (.float .f64 (floatOfInt .f64 J)) (.float .f64 4607182418800017408)).run Tryd.prog w = .ok (.float .f64 y) w) ∧ (p = false → y = floatOfInt .f64 J) := by
    cases p
    · simp only [if_false, Bool.false_eq_true] at hp ⊢
      obtain ⟨hp1, h2, hp3⟩ := hp
      exact ⟨by rw [and_one J J0 J1, hp1], by rw [and_seven J J0 (by omega), hp3], fun _ _ h => absurd h (by decide), fun _ => h2⟩
    · simp only [if_true] at hp ⊢
      obtain ⟨hp1, h2, hp3⟩ := hp
      exact ⟨by rw [and_one J J0 J1, hp1], by rw [and_seven (J + 1) (by omega) (by omega), hp3], fun t w _ => run_float_arith w .add t .f64 _ _ _ h2, fun h => absurd h (by decide)⟩
  obtain ⟨hb1, hb7, hya, hyb⟩ := key
  have hw1 : IntKind.u64.wrap (J + 1) = J + 1 := IntWalk.u64_in _ (by omega)
  have hw2 : IntKind.u64.wrap (4 - 4) = 0 := rfl
  have hw3 : IntKind.u64.wrap (6 - 4) = 2 := rfl
  clear hp J0 J1
  cases p
  · obtain rfl := hyb rfl
    clear hya hyb
    simp only [Bool.false_eq_true, if_false] at hb1 hb7
    rcases ho with rfl | rfl | rfl | rfl
    all_goals
      go_enter Tryd.func28, Tryd.ntmps28
      go_wp2_with (first
      | (go_at_call 34; refine (N1.out _).mono ?_; rintro e w' ⟨rfl, rfl⟩)
      | (go_at_call 37; refine (N3.out _).mono ?_; rintro e w' ⟨rfl, rfl⟩)
      | (go_at_call 35; refine (N2.out _).mono ?_; rintro e w' ⟨rfl, rfl⟩)
      | (refine wpList_fop rfl _ _ _ _ _ rfl (by first | exact .inl rfl | exact .inr (.inl rfl) | exact .inr (.inr (.inl rfl))) _ _ _ _ rfl rfl (by assumption) (by first | assumption | exact Eqv.refl _) ?_; intro z' m' ez)
      | (refine wpList_fop rfl _ _ _ _ _ rfl (by first | exact .inl rfl | exact .inr (.inl rfl) | exact .inr (.inr (.inl rfl))) _ _ _ _ rfl rfl (Eqv.refl _) (by assumption) ?_; intro z' m' ez))
      go_ret
      first
        | exact ⟨_, _, rfl, ez, rfl⟩
        | exact ⟨_, _, rfl, ez.neg, rfl⟩
  · have hy := fun t w => hya t w rfl
    clear hya hyb
    simp only [if_true] at hb1 hb7
    rcases ho with rfl | rfl | rfl | rfl
    all_goals
      go_enter Tryd.func28, Tryd.ntmps28
      go_wp2_with (first
      | (go_at_call 34; refine (N1.out _).mono ?_; rintro e w' ⟨rfl, rfl⟩)
      | (go_at_call 37; refine (N3.out _).mono ?_; rintro e w' ⟨rfl, rfl⟩)
      | (go_at_call 35; refine (N2.out _).mono ?_; rintro e w' ⟨rfl, rfl⟩)
      | (refine wpList_fop rfl _ _ _ _ _ rfl (by first | exact .inl rfl | exact .inr (.inl rfl) | exact .inr (.inr (.inl rfl))) _ _ _ _ rfl rfl (by assumption) (by first | assumption | exact Eqv.refl _) ?_; intro z' m' ez)
      | (refine wpList_fop rfl _ _ _ _ _ rfl (by first | exact .inl rfl | exact .inr (.inl rfl) | exact .inr (.inr (.inl rfl))) _ _ _ _ rfl rfl (Eqv.refl _) (by assumption) ?_; intro z' m' ez))
      go_ret
      first
        | exact ⟨_, _, rfl, ez, rfl⟩
        | exact ⟨_, _, rfl, ez.neg, rfl⟩
end Go.Proofs.YtnkpcjmmingkkaaDoor.F64
