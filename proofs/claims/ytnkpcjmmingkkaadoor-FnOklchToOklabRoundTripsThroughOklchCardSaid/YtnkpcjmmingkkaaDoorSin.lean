/- math.sin and math.cos of moderate numbers, walked. -/
import Derived.Test.YtnkpcjmmingkkaaDoorEq
import Derived.Lib.Hide
import Derived.Handy
import Derived.Laws.Bits64b
import Derived.IntWalk
namespace Go.Proofs.YtnkpcjmmingkkaaDoor.F64
open Go Go.RowKit Go.Lib Go.Proofs.YtnkpcjmmingkkaaDoor.FL
set_option linter.unusedVariables false
/-- The six-term polynomial. -/
def pol (c0 c1 c2 c3 c4 c5 q : Nat) : Nat := fop .add (fop .mul (fop .add (fop .mul (fop .add (fop .mul (fop .add (fop .mul (fop .add (fop .mul c0 q) c1) q) c2) q) c3) q) c4) q) c5
def s0 : Nat := 0x3de5d8fd1fd19ccd
def s1 : Nat := 0xbe5ae5e5a9291f5d
def s2 : Nat := 0x3ec71de3567d48a1
def s3 : Nat := 0xbf2a01a019bfdf03
def s4 : Nat := 0x3f8111111110f7d0
def s5 : Nat := 0xbfc5555555555548
def c0 : Nat := 0xbda8fa49a0861a9b
def c1 : Nat := 0x3e21ee9d7b4e3f05
def c2 : Nat := 0xbe927e4f7eac4bc6
def c3 : Nat := 0x3efa01a019c844f5
def c4 : Nat := 0xbf56c16c16c14f91
def c5 : Nat := 0x3fa555555555554b
def sinT (z : Nat) : Nat := fop .add z (fop .mul (fop .mul z (fop .mul z z)) (pol s0 s1 s2 s3 s4 s5 (fop .mul z z)))
def cosT (z : Nat) : Nat := fop .add (fop .sub 4607182418800017408 (fop .mul 4602678819172646912 (fop .mul z z))) (fop .mul (fop .mul (fop .mul z z) (fop .mul z z)) (pol c0 c1 c2 c3 c4 c5 (fop .mul z z)))
abbrev GS : Nat := 1
abbrev GC : Nat := 2
/-- The two tables. -/
structure SC (w : World) : Prop where
  a0 : w.cell? ⟨GS, 0, none⟩ = some (.float .f64 s0)
  a1 : w.cell? ⟨GS, 1, none⟩ = some (.float .f64 s1)
  a2 : w.cell? ⟨GS, 2, none⟩ = some (.float .f64 s2)
  a3 : w.cell? ⟨GS, 3, none⟩ = some (.float .f64 s3)
  a4 : w.cell? ⟨GS, 4, none⟩ = some (.float .f64 s4)
  a5 : w.cell? ⟨GS, 5, none⟩ = some (.float .f64 s5)
  b0 : w.cell? ⟨GC, 0, none⟩ = some (.float .f64 c0)
  b1 : w.cell? ⟨GC, 1, none⟩ = some (.float .f64 c1)
  b2 : w.cell? ⟨GC, 2, none⟩ = some (.float .f64 c2)
  b3 : w.cell? ⟨GC, 3, none⟩ = some (.float .f64 c3)
  b4 : w.cell? ⟨GC, 4, none⟩ = some (.float .f64 c4)
  b5 : w.cell? ⟨GC, 5, none⟩ = some (.float .f64 c5)
  hs : GS < w.heap.size
  hc : GC < w.heap.size
/-- What the reduction gives: the octant o (even) and the rest z. -/
structure Red (ax : Nat) (o : Int) (z : Nat) : Prop where
  ex : ∃ (m1 y : Nat) (J : Int) (p : Bool) (ya r1 yb r2 yc : Nat), floatBits .mul .f64 ax 4608412980311869571 = some m1 ∧ floatToIntVal .f64 m1 .u64 = some J ∧ 0 ≤ J ∧ J ≤ 1073741824 ∧
    (if p then J % 2 = 1 ∧ floatBits .add .f64 (floatOfInt .f64 J) 4607182418800017408 = some y ∧ o = (J + 1) % 8 else J % 2 = 0 ∧ y = floatOfInt .f64 J ∧ o = J % 8) ∧
    floatBits .mul .f64 y 4605249456957292544 = some ya ∧ floatBits .sub .f64 ax ya = some r1 ∧ floatBits .mul .f64 y 4495793288086814720 = some yb ∧ floatBits .sub .f64 r1 yb = some r2 ∧ floatBits .mul .f64 y 4388835458085048688 = some yc ∧ floatBits .sub .f64 r2 yc = some z
  oct : o = 0 ∨ o = 2 ∨ o = 4 ∨ o = 6
def neg (x : Nat) : Nat := Op.negFloat .f64 x
def sg? (s : Bool) (x : Nat) : Nat := if s then neg x else x
def sinO (s : Bool) (o : Int) (z : Nat) : Nat := sg? (if 3 < o then !s else s) (if o = 2 ∨ o = 6 then cosT z else sinT z)
def FP (v : Nat) (w : World) (e : Ending) (w' : World) : Prop := ∃ u k, e = .returned (.float .f64 u) ∧ Eqv u v ∧ w' = w.drewN k
theorem and_one (J : Int) (h : 0 ≤ J) (h2 : J ≤ 1073741824) : bits .and .u64 J 1 = J % 2 := by
  obtain ⟨n, rfl⟩ := Int.eq_ofNat_of_zero_le h
  have e := bits_and_u64_nat n 1 (by omega) (by decide)
  rw [Nat.and_one_is_mod] at e
  exact e.trans (by omega)
theorem and_seven (J : Int) (h : 0 ≤ J) (h2 : J ≤ 1073741825) : bits .and .u64 J 7 = J % 8 := by
  obtain ⟨n, rfl⟩ := Int.eq_ofNat_of_zero_le h
  have e := bits_and_u64_nat n 7 (by omega) (by decide)
  rw [show (7 : Nat) = 2 ^ 3 - 1 by decide, Nat.and_two_pow_sub_one_eq_mod] at e
  exact e.trans (by omega)
theorem Eqv.neg {a b : Nat} (h : Eqv a b) : Eqv (Op.negFloat .f64 a) (Op.negFloat .f64 b) := by
  rcases h with rfl | ⟨h1, h2⟩
  · exact .inl rfl
  · refine .inr ⟨?_, ?_⟩
    · show 2047 * 2 ^ 52 < (a ^^^ 2 ^ 63) % 2 ^ 63
      rw [xor_mod]; exact h1
    · show 2047 * 2 ^ 52 < (b ^^^ 2 ^ 63) % 2 ^ 63
      rw [xor_mod]; exact h2
theorem isNaN (x : Nat) (w : World) : Calls Tryd.prog 34 #[.float .f64 x] w (fun e w' => e = .returned (.bool (FloatKind.f64.format.order x x != some .eq)) ∧ w = w') := by
  go_enter Tryd.func34, Tryd.ntmps34
  go_wp2_with fail
  go_ret
  exact ⟨rfl, rfl⟩
set_option maxRecDepth 100000 in
set_option maxHeartbeats 4000000 in
theorem sinM (x ax z : Nat) (s : Bool) (o : Int) (w : World) (hT : SC w) (n0 : (FloatKind.f64.format.order x 0 == some .eq) = false) (n1 : (FloatKind.f64.format.order x x != some .eq) = false) (n2 : ∀ W, Calls Tryd.prog 35 #[.float .f64 x, .int .i64 0] W (fun e w' => e = .returned (.bool false) ∧ W = w'))
    (hs : (FloatKind.f64.format.order x 0 == some .lt) = s) (hax : ax = sg? s x) (ht : (FloatKind.f64.format.order ax 4737786807993761792 == some .gt || FloatKind.f64.format.order ax 4737786807993761792 == some .eq) = false) (hr : Red ax o z) :
    Calls Tryd.prog 30 #[.float .f64 x] (w.drewN 0) (FP (sinO s o z) w) := by
  obtain ⟨⟨m1, y, J, p, ya, r1, yb, r2, yc, f1, f2, J0, J1, hp, f3, f4, f5, f6, f7, f8⟩, ho⟩ := hr
  have g1 := fun (t : TypeId) (w : World) => run_float_arith (P := Tryd.prog) w .mul t .f64 _ _ _ f1
  have g2 := fun (w : World) => run_convert_float_int (P := Tryd.prog) w 22 39 .f64 .u64 _ _ (by kernel_rfl) Tryd.underlying39 f2
  have g3 := fun (t : TypeId) (w : World) => run_float_arith (P := Tryd.prog) w .mul t .f64 _ _ _ f3
  have g4 := fun (t : TypeId) (w : World) => run_float_arith (P := Tryd.prog) w .sub t .f64 _ _ _ f4
  have g5 := fun (t : TypeId) (w : World) => run_float_arith (P := Tryd.prog) w .mul t .f64 _ _ _ f5
  have g6 := fun (t : TypeId) (w : World) => run_float_arith (P := Tryd.prog) w .sub t .f64 _ _ _ f6
  have g7 := fun (t : TypeId) (w : World) => run_float_arith (P := Tryd.prog) w .mul t .f64 _ _ _ f7
  have g8 := fun (t : TypeId) (w : World) => run_float_arith (P := Tryd.prog) w .sub t .f64 _ _ _ f8
  have N2 := Lib.hid n2
  have N1 := Lib.hid (fun W => (show Calls Tryd.prog 34 #[.float .f64 x] W (fun e w' => e = .returned (.bool false) ∧ W = w') by have h := isNaN x W; rw [n1] at h; exact h))
  have HT := Lib.hid hT
  have EZ : Eqv z z := Eqv.refl z
  clear f1 f2 f3 f4 f5 f6 f7 f8 n2 hT
  have A0 : ∀ m, (w.drewN m).cell? ⟨GS, 0, none⟩ = some (.float .f64 s0) := fun _ => HT.out.a0
  have A1 : ∀ m, (w.drewN m).cell? ⟨GS, 1, none⟩ = some (.float .f64 s1) := fun _ => HT.out.a1
  have A2 : ∀ m, (w.drewN m).cell? ⟨GS, 2, none⟩ = some (.float .f64 s2) := fun _ => HT.out.a2
  have A3 : ∀ m, (w.drewN m).cell? ⟨GS, 3, none⟩ = some (.float .f64 s3) := fun _ => HT.out.a3
  have A4 : ∀ m, (w.drewN m).cell? ⟨GS, 4, none⟩ = some (.float .f64 s4) := fun _ => HT.out.a4
  have A5 : ∀ m, (w.drewN m).cell? ⟨GS, 5, none⟩ = some (.float .f64 s5) := fun _ => HT.out.a5
  have B0 : ∀ m, (w.drewN m).cell? ⟨GC, 0, none⟩ = some (.float .f64 c0) := fun _ => HT.out.b0
  have B1 : ∀ m, (w.drewN m).cell? ⟨GC, 1, none⟩ = some (.float .f64 c1) := fun _ => HT.out.b1
  have B2 : ∀ m, (w.drewN m).cell? ⟨GC, 2, none⟩ = some (.float .f64 c2) := fun _ => HT.out.b2
  have B3 : ∀ m, (w.drewN m).cell? ⟨GC, 3, none⟩ = some (.float .f64 c3) := fun _ => HT.out.b3
  have B4 : ∀ m, (w.drewN m).cell? ⟨GC, 4, none⟩ = some (.float .f64 c4) := fun _ => HT.out.b4
  have B5 : ∀ m, (w.drewN m).cell? ⟨GC, 5, none⟩ = some (.float .f64 c5) := fun _ => HT.out.b5
  have hng := fun b => unary_negf .f64 b
  clear n1 HT
  have key : ∃ hb1 : bits .and .u64 J 1 = (if p then 1 else 0), bits .and .u64 (if p then J + 1 else J) 7 = o ∧ (∀ (t : TypeId) (w : World), p = true → (binOp .add t (.float .f64 (floatOfInt .f64 J)) (.float .f64 4607182418800017408)).run Tryd.prog w = .ok (.float .f64 y) w) ∧ (p = false → y = floatOfInt .f64 J) := by
    cases p
    · simp only [if_false, Bool.false_eq_true] at hp ⊢
      obtain ⟨hp1, h2, hp3⟩ := hp
      exact ⟨by rw [and_one J J0 J1, hp1], by rw [and_seven J J0 (by omega), hp3], fun _ _ h => absurd h (by decide), fun _ => h2⟩
    · simp only [if_true] at hp ⊢
      obtain ⟨hp1, h2, hp3⟩ := hp
      exact ⟨by rw [and_one J J0 J1, hp1], by rw [and_seven (J + 1) (by omega) (by omega), hp3], fun t w _ => run_float_arith w .add t .f64 _ _ _ h2, fun h => absurd h (by decide)⟩
  obtain ⟨hb1, hb7, hya, hyb⟩ := key
  have hw1 : IntKind.u64.wrap (J + 1) = J + 1 := IntWalk.u64_in _ (by omega)
  have hw2 : IntKind.u64.wrap (4 - 4) = 0 := rfl
  have hw3 : IntKind.u64.wrap (6 - 4) = 2 := rfl
  clear hp J0 J1
  cases p
  · obtain rfl := hyb rfl
    clear hya hyb
    simp only [Bool.false_eq_true, if_false] at hb1 hb7
    cases s <;> simp only [sg?, Bool.false_eq_true, if_false, if_true, neg] at hax <;> subst hax <;> rcases ho with rfl | rfl | rfl | rfl
    all_goals
      go_enter Tryd.func30, Tryd.ntmps30
      go_wp2_with (first
      | (go_at_call 34; refine (N1.out _).mono ?_; rintro e w' ⟨rfl, rfl⟩)
      | (go_at_call 35; refine (N2.out _).mono ?_; rintro e w' ⟨rfl, rfl⟩)
      | (refine wpList_fop rfl _ _ _ _ _ rfl (by first | exact .inl rfl | exact .inr (.inl rfl) | exact .inr (.inr (.inl rfl))) _ _ _ _ rfl rfl (by assumption) (by first | assumption | exact Eqv.refl _) ?_; intro z' m' ez)
      | (refine wpList_fop rfl _ _ _ _ _ rfl (by first | exact .inl rfl | exact .inr (.inl rfl) | exact .inr (.inr (.inl rfl))) _ _ _ _ rfl rfl (Eqv.refl _) (by assumption) ?_; intro z' m' ez))
      go_ret
      first
        | exact ⟨_, _, rfl, ez, rfl⟩
        | exact ⟨_, _, rfl, ez.neg, rfl⟩
  · have hy := fun t w => hya t w rfl
    clear hya hyb
    simp only [if_true] at hb1 hb7
    cases s <;> simp only [sg?, Bool.false_eq_true, if_false, if_true, neg] at hax <;> subst hax <;> rcases ho with rfl | rfl | rfl | rfl
    all_goals
      go_enter Tryd.func30, Tryd.ntmps30
      go_wp2_with (first
      | (go_at_call 34; refine (N1.out _).mono ?_; rintro e w' ⟨rfl, rfl⟩)
      | (go_at_call 35; refine (N2.out _).mono ?_; rintro e w' ⟨rfl, rfl⟩)
      | (refine wpList_fop rfl _ _ _ _ _ rfl (by first | exact .inl rfl | exact .inr (.inl rfl) | exact .inr (.inr (.inl rfl))) _ _ _ _ rfl rfl (by assumption) (by first | assumption | exact Eqv.refl _) ?_; intro z' m' ez)
      | (refine wpList_fop rfl _ _ _ _ _ rfl (by first | exact .inl rfl | exact .inr (.inl rfl) | exact .inr (.inr (.inl rfl))) _ _ _ _ rfl rfl (Eqv.refl _) (by assumption) ?_; intro z' m' ez))
      go_ret
      first
        | exact ⟨_, _, rfl, ez, rfl⟩
        | exact ⟨_, _, rfl, ez.neg, rfl⟩
end Go.Proofs.YtnkpcjmmingkkaaDoor.F64
