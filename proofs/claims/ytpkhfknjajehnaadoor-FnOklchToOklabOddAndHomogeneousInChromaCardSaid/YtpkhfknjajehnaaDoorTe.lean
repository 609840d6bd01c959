/- math.sin and math.cos of great numbers, walked. -/
import Derived.Test.YtpkhfknjajehnaaDoorCos
import Derived.Test.YtpkhfknjajehnaaDoorTr
namespace Go.Proofs.YtpkhfknjajehnaaDoor.F64
open Go Go.RowKit Go.Lib Go.Proofs.YtpkhfknjajehnaaDoor.FL
set_option linter.unusedVariables false
set_option maxRecDepth 100000 in
set_option maxHeartbeats 4000000 in
theorem cosB (x ax z : Nat) (o : Int) (w : World) (hT : SC w) (n1 : (FloatKind.f64.format.order x x != some .eq) = false) (n2 : ∀ W, Calls Tryd.prog 23 #[.float .f64 x, .int .i64 0] W (fun e w' => e = .returned (.bool false) ∧ W = w'))
    (n3 : ∀ W, Calls Tryd.prog 25 #[.float .f64 x] W (fun e w' => e = .returned (.float .f64 ax) ∧ W = w')) (ht : (FloatKind.f64.format.order ax 4737786807993761792 == some .gt || FloatKind.f64.format.order ax 4737786807993761792 == some .eq) = true) (ho : o = 0 ∨ o = 2 ∨ o = 4 ∨ o = 6)
    (n4 : ∀ m, Calls Tryd.prog 26 #[.float .f64 ax] (w.drewN m) (TP o z w)) :
    Calls Tryd.prog 19 #[.float .f64 x] (w.drewN 0) (FP (cosO o z) w) := by
  have N2 := Lib.hid n2
  have N4 := Lib.hid n4
  have N1 := Lib.hid (fun W => (show Calls Tryd.prog 22 #[.float .f64 x] W (fun e w' => e = .returned (.bool false) ∧ W = w') by have h := isNaN x W; rw [n1] at h; exact h))
  have HT := Lib.hid hT
  have EZ : Eqv z z := Eqv.refl z
  have N3 := Lib.hid n3
  clear n2 n3 n4 hT
  have A0 : ∀ m, (w.drewN m).cell? ⟨GS, 0, none⟩ = some (.float .f64 s0) := fun _ => HT.out.a0
  have A1 : ∀ m, (w.drewN m).cell? ⟨GS, 1, none⟩ = some (.float .f64 s1) := fun _ => HT.out.a1
  have A2 : ∀ m, (w.drewN m).cell? ⟨GS, 2, none⟩ = some (.float .f64 s2) := fun _ => HT.out.a2
  have A3 : ∀ m, (w.drewN m).cell? ⟨GS, 3, none⟩ = some (.float .f64 s3) := fun _ => HT.out.a3
  have A4 : ∀ m, (w.drewN m).cell? ⟨GS, 4, none⟩ = some (.float .f64 s4) := fun _ => HT.out.a4
  have A5 : ∀ m, (w.drewN m).cell? ⟨GS, 5, none⟩ = some (.float .f64 s5) := fun _ => HT.out.a5
  have B0 : ∀ m, (w.drewN m).cell? ⟨GC, 0, none⟩ = some (.float .f64 c0) := fun _ => HT.out.b0
  have B1 : ∀ m, (w.drewN m).cell? ⟨GC, 1, none⟩ = some (.float .f64 c1) := fun _ => HT.out.b1
  have B2 : ∀ m, (w.drewN m).cell? ⟨GC, 2, none⟩ = some (.float .f64 c2) := fun _ => HT.out.b2
  have B3 : ∀ m, (w.drewN m).cell? ⟨GC, 3, none⟩ = some (.float .f64 c3) := fun _ => HT.out.b3
  have B4 : ∀ m, (w.drewN m).cell? ⟨GC, 4, none⟩ = some (.float .f64 c4) := fun _ => HT.out.b4
  have B5 : ∀ m, (w.drewN m).cell? ⟨GC, 5, none⟩ = some (.float .f64 c5) := fun _ => HT.out.b5
  have hng := fun b => unary_negf .f64 b
  clear n1 HT
  have hw1 : IntKind.u64.wrap (4 - 4) = 0 := rfl
  have hw2 : IntKind.u64.wrap (4 - 4) = 0 := rfl
  have hw3 : IntKind.u64.wrap (6 - 4) = 2 := rfl
  rcases ho with rfl | rfl | rfl | rfl
  all_goals
      go_enter Tryd.func19, Tryd.ntmps19
      go_wp2_with (first
      | (go_at_call 22; refine (N1.out _).mono ?_; rintro e w' ⟨rfl, rfl⟩)
      | (go_at_call 25; refine (N3.out _).mono ?_; rintro e w' ⟨rfl, rfl⟩)
      | (go_at_call 23; refine (N2.out _).mono ?_; rintro e w' ⟨rfl, rfl⟩)
      | (go_at_call 26; refine (N4.out _).mono ?_; rintro e w' ⟨u0, k0, rfl, eu, rfl⟩)
      | (refine wpList_fop rfl _ _ _ _ _ rfl (by first | exact .inl rfl | exact .inr (.inl rfl) | exact .inr (.inr (.inl rfl))) _ _ _ _ rfl rfl (by assumption) (by first | assumption | exact Eqv.refl _) ?_; intro z' m' ez)
      | (refine wpList_fop rfl _ _ _ _ _ rfl (by first | exact .inl rfl | exact .inr (.inl rfl) | exact .inr (.inr (.inl rfl))) _ _ _ _ rfl rfl (Eqv.refl _) (by assumption) ?_; intro z' m' ez))
      go_ret
      first
        | exact ⟨_, _, rfl, ez, rfl⟩
        | exact ⟨_, _, rfl, ez.neg, rfl⟩
set_option maxRecDepth 100000 in
set_option maxHeartbeats 4000000 in
theorem sinB (x ax z : Nat) (s : Bool) (o : Int) (w : World) (hT : SC w) (n0 : (FloatKind.f64.format.order x 0 == some .eq) = false) (n1 : (FloatKind.f64.format.order x x != some .eq) = false) (n2 : ∀ W, Calls Tryd.prog 23 #[.float .f64 x, .int .i64 0] W (fun e w' => e = .returned (.bool false) ∧ W = w'))
    (hs : (FloatKind.f64.format.order x 0 == some .lt) = s) (hax : ax = sg? s x) (ht : (FloatKind.f64.format.order ax 4737786807993761792 == some .gt || FloatKind.f64.format.order ax 4737786807993761792 == some .eq) = true) (ho : o = 0 ∨ o = 2 ∨ o = 4 ∨ o = 6)
    (n4 : ∀ m, Calls Tryd.prog 26 #[.float .f64 ax] (w.drewN m) (TP o z w)) :
    Calls Tryd.prog 21 #[.float .f64 x] (w.drewN 0) (FP (sinO s o z) w) := by
  have N2 := Lib.hid n2
  have N1 := Lib.hid (fun W => (show Calls Tryd.prog 22 #[.float .f64 x] W (fun e w' => e = .returned (.bool false) ∧ W = w') by have h := isNaN x W; rw [n1] at h; exact h))
  have HT := Lib.hid hT
  have EZ : Eqv z z := Eqv.refl z
  clear n2 hT
  have A0 : ∀ m, (w.drewN m).cell? ⟨GS, 0, none⟩ = some (.float .f64 s0) := fun _ => HT.out.a0
  have A1 : ∀ m, (w.drewN m).cell? ⟨GS, 1, none⟩ = some (.float .f64 s1) := fun _ => HT.out.a1
  have A2 : ∀ m, (w.drewN m).cell? ⟨GS, 2, none⟩ = some (.float .f64 s2) := fun _ => HT.out.a2
  have A3 : ∀ m, (w.drewN m).cell? ⟨GS, 3, none⟩ = some (.float .f64 s3) := fun _ => HT.out.a3
  have A4 : ∀ m, (w.drewN m).cell? ⟨GS, 4, none⟩ = some (.float .f64 s4) := fun _ => HT.out.a4
  have A5 : ∀ m, (w.drewN m).cell? ⟨GS, 5, none⟩ = some (.float .f64 s5) := fun _ => HT.out.a5
  have B0 : ∀ m, (w.drewN m).cell? ⟨GC, 0, none⟩ = some (.float .f64 c0) := fun _ => HT.out.b0
  have B1 : ∀ m, (w.drewN m).cell? ⟨GC, 1, none⟩ = some (.float .f64 c1) := fun _ => HT.out.b1
  have B2 : ∀ m, (w.drewN m).cell? ⟨GC, 2, none⟩ = some (.float .f64 c2) := fun _ => HT.out.b2
  have B3 : ∀ m, (w.drewN m).cell? ⟨GC, 3, none⟩ = some (.float .f64 c3) := fun _ => HT.out.b3
  have B4 : ∀ m, (w.drewN m).cell? ⟨GC, 4, none⟩ = some (.float .f64 c4) := fun _ => HT.out.b4
  have B5 : ∀ m, (w.drewN m).cell? ⟨GC, 5, none⟩ = some (.float .f64 c5) := fun _ => HT.out.b5
  have hng := fun b => unary_negf .f64 b
  clear n1 HT
  have hw1 : IntKind.u64.wrap (4 - 4) = 0 := rfl
  have hw2 : IntKind.u64.wrap (4 - 4) = 0 := rfl
  have hw3 : IntKind.u64.wrap (6 - 4) = 2 := rfl
  cases s <;> simp only [sg?, Bool.false_eq_true, if_false, if_true, neg] at hax <;> subst hax <;> rcases ho with rfl | rfl | rfl | rfl
  all_goals
      have N4 := Lib.hid n4
      clear n4
      go_enter Tryd.func21, Tryd.ntmps21
      go_wp2_with (first
      | (go_at_call 22; refine (N1.out _).mono ?_; rintro e w' ⟨rfl, rfl⟩)
      | (go_at_call 23; refine (N2.out _).mono ?_; rintro e w' ⟨rfl, rfl⟩)
      | (go_at_call 26; refine (N4.out _).mono ?_; rintro e w' ⟨u0, k0, rfl, eu, rfl⟩)
      | (refine wpList_fop rfl _ _ _ _ _ rfl (by first | exact .inl rfl | exact .inr (.inl rfl) | exact .inr (.inr (.inl rfl))) _ _ _ _ rfl rfl (by assumption) (by first | assumption | exact Eqv.refl _) ?_; intro z' m' ez)
      | (refine wpList_fop rfl _ _ _ _ _ rfl (by first | exact .inl rfl | exact .inr (.inl rfl) | exact .inr (.inr (.inl rfl))) _ _ _ _ rfl rfl (Eqv.refl _) (by assumption) ?_; intro z' m' ez))
      go_ret
      first
        | exact ⟨_, _, rfl, ez, rfl⟩
        | exact ⟨_, _, rfl, ez.neg, rfl⟩
end Go.Proofs.YtpkhfknjajehnaaDoor.F64
