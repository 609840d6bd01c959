/- math.trigReduce: what it answers depends on its argument alone. -/
import Derived.Test.YtpkhfknjajehnaaDoorEq
import Derived.Lib.Hide
import Derived.Handy
import Derived.Laws.Bits64b
import Derived.IntWalk
import Derived.BigQuiet
import Derived.Test.YtpkhfknjajehnaaDoorShelf
import Derived.Laws.Externs
namespace Go.Proofs.YtpkhfknjajehnaaDoor.F64
open Go Go.RowKit Go.Lib Go.Proofs.YtpkhfknjajehnaaDoor.FL
set_option linter.unusedVariables false
theorem tobitsI (x : Nat) (w : World) : (callFunc 28 #[.float .f64 x]).run Tryd.prog w = .ok (.value (.int .u64 x)) w := by kernel_rfl
theorem frombitsI (n : Int) (w : World) : (callFunc 27 #[.int .u64 n]).run Tryd.prog w = .ok (.value (.float .f64 n.toNat)) w := by kernel_rfl
def U64 (x : Int) : Prop := 0 ≤ x ∧ x < 18446744073709551616
abbrev GP : Nat := 3
def mpT : Array Int := #[1, 5040379952546458195, 17892431488136887169, 13169980181085364355, 18204331823439776451, 7946843935494350272, 905889640498799673, 18175356263134875261, 15061281708168349961, 15220161563773041794, 8296664548579374057, 4109744767560208502, 4607516669194743839, 16023283104648321598, 15739233654134936430, 11424645774684705882, 16883842788696515318, 8795094592981902804, 15561835991111744016, 12395701187267450711]
def mp (i : Nat) : Int := mpT.getD i 0
theorem mp_u64 (i : Nat) : U64 (mp i) := by
  unfold U64 mp
  by_cases h : i < 20
  · have : ∀ j : _root_.Fin 20, 0 ≤ mpT.getD j.1 0 ∧ mpT.getD j.1 0 < 18446744073709551616 := by decide +kernel
    exact this ⟨i, h⟩
  · have e : mpT.getD i 0 = 0 := by unfold Array.getD; rw [dif_neg]; show ¬ i < 20; exact h
    rw [e]; decide
def MP (w : World) : Prop := GP < w.heap.size ∧ ∀ i, i < 20 → w.cell? ⟨GP, i, none⟩ = some (.int .u64 (mp i))
theorem mul64I (x y : Int) (hx : U64 x) (hy : U64 y) (w : World) : Calls Tryd.prog 29 #[.int .u64 x, .int .u64 y] w (fun e w' => e = .returned (.tuple #[.int .u64 ((x.toNat * y.toNat / 18446744073709551616 : Nat) : Int), .int .u64 ((x.toNat * y.toNat % 18446744073709551616 : Nat) : Int)]) ∧ w = w') := by
  have h1 := Int.toNat_of_nonneg hx.1
  have h2 := Int.toNat_of_nonneg hy.1
  have h := Tryd.bits_Mul64 x.toNat y.toNat (by have := hx.2; omega) (by have := hy.2; omega) w
  rw [h1, h2] at h
  exact h.mono fun e w' hh => ⟨hh.1, hh.2.symm⟩
theorem lz64I (x : Int) (hx : U64 x) (w : World) : Calls Tryd.prog 31 #[.int .u64 x] w (fun e w' => e = .returned (.int .i64 (64 - (Lib.bitLen x.toNat : Int))) ∧ w = w') :=
  (Tryd.bits_LeadingZeros64 x w hx.1 (by have := hx.2; omega)).mono fun e w' hh => ⟨hh.1, hh.2.symm⟩
theorem add64I (x y c : Int) (hx : U64 x) (hy : U64 y) (hc : 0 ≤ c ∧ c ≤ 1) (w : World) :
    (callFunc 30 #[.int .u64 x, .int .u64 y, .int .u64 c]).run Tryd.prog w = .ok (.value (.tuple #[.int .u64 ((x + y + c) % 18446744073709551616), .int .u64 ((x + y + c) / 18446744073709551616)])) w := by
  rw [run_callFunc_extern Tryd.func30 (by kernel_rfl) (by kernel_rfl) (by kernel_rfl) (e := add64Entry) (by kernel_rfl), run_add64 x y c hx.1 hy.1 hc.1 hc.2]
  rfl
theorem w64 (z : Int) (h1 : -1000000 ≤ z) (h2 : z ≤ 1000000) : wrap64 z = z := by unfold wrap64; omega
theorem exp_of (x : Nat) (h : x < 2 ^ 63) : bits .and .u64 ((x : Int) / 4503599627370496) 2047 = ((x / 2 ^ 52 : Nat) : Int) := by
  have e : ((x : Int) / 4503599627370496) = ((x / 2 ^ 52 : Nat) : Int) := by omega
  rw [e]
  have hl : x / 2 ^ 52 < 2 ^ 11 := by omega
  generalize x / 2 ^ 52 = y at *
  have h2 := bits_and_u64_nat y 2047 (by omega) (by decide)
  have h3 : y &&& 2047 = y := by
    have := Nat.and_two_pow_sub_one_eq_mod y 11
    rw [Nat.mod_eq_of_lt hl] at this
    exact this
  rw [h3] at h2
  exact h2
theorem u64_nat {z : Int} (h : U64 z) : ∃ n : Nat, n < 18446744073709551616 ∧ z = (n : Int) := by
  obtain ⟨n, rfl⟩ := Int.eq_ofNat_of_zero_le h.1
  exact ⟨n, by have := h.2; omega, rfl⟩
theorem trF (E S D B : Nat) (h1 : 1014 ≤ E) (h2 : E ≤ 2046) (hS : E - 1014 = S) (hD : S / 64 = D) (hB : S % 64 = B) :
    wrap64 (E : Int) = E ∧
    wrap64 ((E : Int) - 1023) = E - 1023 ∧
    wrap64 ((E : Int) - 1023 - 52) = E - 1023 - 52 ∧
    wrap64 ((E : Int) - 1023 - 52 + 61) = S ∧
    IntKind.u64.wrap (S : Int) = S ∧
    (S : Int).tdiv 64 = D ∧
    IntKind.u64.wrap (D : Int) = D ∧
    (S : Int).tmod 64 = B ∧
    IntKind.u64.wrap ((D : Int) + 1) = ((D + 1 : Nat) : Int) ∧
    IntKind.u64.wrap ((D : Int) + 2) = ((D + 2 : Nat) : Int) ∧
    IntKind.u64.wrap ((D : Int) + 3) = ((D + 3 : Nat) : Int) ∧
    IntKind.u64.wrap (64 - (B : Int)) = ((64 - B : Nat) : Int) ∧
    D < 20 ∧
    D + 1 < 20 ∧
    D + 2 < 20 ∧
    D + 3 < 20 ∧
    (D : Int) < 20 ∧
    ((D + 1 : Nat) : Int) < 20 ∧
    ((D + 2 : Nat) : Int) < 20 ∧
    ((D + 3 : Nat) : Int) < 20 ∧ ((E : Int) - 1023 - 52 + 61 = S) ∧ ((S : Int) / 64 = D) ∧ ((S : Int) % 64 = B) := by
  have f2 : wrap64 (E : Int) = E := w64 _ (by omega) (by omega)
  have f3 : wrap64 ((E : Int) - 1023) = E - 1023 := w64 _ (by omega) (by omega)
  have f4 : wrap64 ((E : Int) - 1023 - 52) = E - 1023 - 52 := w64 _ (by omega) (by omega)
  have f5 : wrap64 ((E : Int) - 1023 - 52 + 61) = S := by rw [w64 _ (by omega) (by omega)]; omega
  have f6 : IntKind.u64.wrap (S : Int) = S := IntWalk.u64_in _ (by omega)
  have f7 : (S : Int).tdiv 64 = D := by rw [Int.tdiv_eq_ediv_of_nonneg (by omega)]; omega
  have f8 : IntKind.u64.wrap (D : Int) = D := IntWalk.u64_in _ (by omega)
  have f9 : (S : Int).tmod 64 = B := by rw [Int.tmod_eq_emod_of_nonneg (by omega)]; omega
  have g1 : IntKind.u64.wrap ((D : Int) + 1) = ((D + 1 : Nat) : Int) := by rw [IntWalk.u64_in _ (by omega)]; omega
  have g2 : IntKind.u64.wrap ((D : Int) + 2) = ((D + 2 : Nat) : Int) := by rw [IntWalk.u64_in _ (by omega)]; omega
  have g3 : IntKind.u64.wrap ((D : Int) + 3) = ((D + 3 : Nat) : Int) := by rw [IntWalk.u64_in _ (by omega)]; omega
  have g4 : IntKind.u64.wrap (64 - (B : Int)) = ((64 - B : Nat) : Int) := by rw [IntWalk.u64_in _ (by omega)]; omega
  have i0 : D < 20 := by omega
  have i1 : D + 1 < 20 := by omega
  have i2 : D + 2 < 20 := by omega
  have i3 : D + 3 < 20 := by omega
  have j0 : (D : Int) < 20 := by omega
  have j1 : ((D + 1 : Nat) : Int) < 20 := by omega
  have j2 : ((D + 2 : Nat) : Int) < 20 := by omega
  have j3 : ((D + 3 : Nat) : Int) < 20 := by omega
  exact ⟨f2, f3, f4, f5, f6, f7, f8, f9, g1, g2, g3, g4, i0, i1, i2, i3, j0, j1, j2, j3, by omega, by omega, by omega⟩
/-- What trigReduce answers. -/
def TP (o : Int) (z : Nat) (w : World) (e : Ending) (w' : World) : Prop := ∃ u k, e = .returned (.tuple #[.int .u64 o, .float .f64 u]) ∧ Eqv u z ∧ w' = w.drewN k
set_option maxRecDepth 100000 in
set_option maxHeartbeats 4000000 in
theorem trT (x E S D B : Nat) (M z0 z1 z2 h2' h1' l1 q lo cc hi c2 H3 j : Int) (n L1 L2 : Nat) (w : World) (hM : MP w) (hlt : (FloatKind.f64.format.order x 4605249457297304856 == some .lt) = false) (hx : x < 2 ^ 63)
    (hE : x / 2 ^ 52 = E) (h1 : 1014 ≤ E) (h2 : E ≤ 2046) (hS : E - 1014 = S) (hD : S / 64 = D) (hB : S % 64 = B) (hMM : bits .or .u64 (bits .andNot .u64 (x : Int) 9218868437227405312) 4503599627370496 = M)
    (uM : U64 M) (u0 : U64 z0) (u1 : U64 z1) (u2 : U64 z2)
    (hZ0 : bits .or .u64 (IntKind.u64.wrap (mp D * 2 ^ B)) (mp (D + 1) / 2 ^ (64 - B)) = z0)
    (hZ1 : bits .or .u64 (IntKind.u64.wrap (mp (D + 1) * 2 ^ B)) (mp (D + 2) / 2 ^ (64 - B)) = z1)
    (hZ2 : bits .or .u64 (IntKind.u64.wrap (mp (D + 2) * 2 ^ B)) (mp (D + 3) / 2 ^ (64 - B)) = z2)
    (e1 : ((z2.toNat * M.toNat / 18446744073709551616 : Nat) : Int) = h2') (e2 : ((z1.toNat * M.toNat / 18446744073709551616 : Nat) : Int) = h1') (e3 : ((z1.toNat * M.toNat % 18446744073709551616 : Nat) : Int) = l1)
    (e4 : IntKind.u64.wrap (z0 * M) = q)
    (t3 : ∀ w, (callFunc 30 #[.int .u64 l1, .int .u64 h2', .int .u64 0]).run Tryd.prog w = .ok (.value (.tuple #[.int .u64 lo, .int .u64 cc])) w)
    (t4 : ∀ w, (callFunc 30 #[.int .u64 q, .int .u64 h1', .int .u64 cc]).run Tryd.prog w = .ok (.value (.tuple #[.int .u64 hi, .int .u64 c2])) w)
    (u3 : U64 H3) (e5 : bits .or .u64 (IntKind.u64.wrap (hi * 8)) (lo / 2305843009213693952) = H3) (e6 : hi / 2305843009213693952 = j)
    (e7 : (64 - (Lib.bitLen H3.toNat : Int)) = n) (hn : n ≤ 64) (e8 : IntKind.u64.wrap ((n : Int) + 1) = L1) (e9 : IntKind.u64.wrap (64 - (L1 : Int)) = L2)
    (zw : Nat) (e10 : (bits .or .u64 (bits .or .u64 (IntKind.u64.wrap (H3 * 2 ^ min L1 64)) (lo / 2 ^ min L2 64) / 4096) (IntKind.u64.wrap (IntKind.u64.wrap (1023 - (L1 : Int)) * 4503599627370496))).toNat = zw)
    (p : Bool) (o : Int) (hb1 : bits .and .u64 j 1 = (if p then 1 else 0)) (ho : (if p then bits .and .u64 (IntKind.u64.wrap (j + 1)) 7 else j) = o) (zz : Nat) (hz : (if p then fop .mul (fop .sub zw 4607182418800017408) 4605249457297304856 else fop .mul zw 4605249457297304856) = zz) :
    Calls Tryd.prog 26 #[.float .f64 x] (w.drewN 0) (TP o zz w) := by
  have t1 := tobitsI
  have t2 := frombitsI
  obtain ⟨f2, f3, f4, f5, f6, f7, f8, f9, g1, g2, g3, g4, i0, i1, i2, i3, j0, j1, j2, j3, q1, q2, q3⟩ := trF E S D B h1 h2 hS hD hB
  have f1 := exp_of x hx
  rw [hE] at f1
  have A0 := Lib.hid fun (m : Nat) => (show (w.drewN m).cell? ⟨GP, D, none⟩ = some (.int .u64 (mp D)) from hM.2 _ i0)
  have A1 := Lib.hid fun (m : Nat) => (show (w.drewN m).cell? ⟨GP, D + 1, none⟩ = some (.int .u64 (mp (D + 1))) from hM.2 _ i1)
  have A2 := Lib.hid fun (m : Nat) => (show (w.drewN m).cell? ⟨GP, D + 2, none⟩ = some (.int .u64 (mp (D + 2))) from hM.2 _ i2)
  have A3 := Lib.hid fun (m : Nat) => (show (w.drewN m).cell? ⟨GP, D + 3, none⟩ = some (.int .u64 (mp (D + 3))) from hM.2 _ i3)
  clear hM hE hS hD
  go_enter Tryd.func26, Tryd.ntmps26
  have M2 := Lib.hid fun W => mul64I z2 M u2 uM W
  have M1 := Lib.hid fun W => mul64I z1 M u1 uM W
  rw [e1] at M2
  rw [e2, e3] at M1
  have LZ := Lib.hid fun W => lz64I H3 u3 W
  rw [e7] at LZ
  have E5 := Lib.hid e5
  have E6 := Lib.hid e6
  have r1 : IntKind.u64.wrap (n : Int) = n := IntWalk.u64_in _ (by omega)
  have R2 := Lib.hid e8
  have R3 := Lib.hid e9
  have E10 := Lib.hid e10
  have HB := Lib.hid hb1
  have HOO := Lib.hid ho
  have HZZ := Lib.hid hz
  clear e5 e6 e7 e8 e9 e10 hn hb1 ho hz
  have HZ0 := Lib.hid hZ0
  have HZ1 := Lib.hid hZ1
  have HZ2 := Lib.hid hZ2
  have T3 := Lib.hid t3
  have T4 := Lib.hid t4
  have E4 := Lib.hid e4
  clear e1 e2 e3 e4 hZ0 hZ1 hZ2 t3 t4
  go_wp2_with fail
  have a0 := A0.out
  have a1 := A1.out
  go_quiet (fail)
  rw [HZ0.out]
  go_wp2_with fail
  have a2 := A2.out
  go_quiet (fail)
  rw [HZ1.out]
  go_wp2_with fail
  have a3 := A3.out
  go_quiet (fail)
  rw [HZ2.out]
  go_wp2_with fail
  refine (M2.out _).mono ?_
  rintro e w' ⟨rfl, rfl⟩
  go_wp2_with fail
  refine (M1.out _).mono ?_
  rintro e w' ⟨rfl, rfl⟩
  have t3 := T3.out
  have e4 := E4.out
  have t4 := T4.out
  go_wp2_with fail
  rw [E5.out]
  rw [E6.out]
  refine (LZ.out _).mono ?_
  rintro e w' ⟨rfl, rfl⟩
  have r2 := R2.out
  have r3 := R3.out
  have hb1 := HB.out
  have ho := HOO.out
  cases p
  · simp only [Bool.false_eq_true, if_false] at hb1 ho
    subst ho
    go_wp2_with (refine wpList_fop rfl _ _ _ _ _ rfl (by first | exact .inl rfl | exact .inr (.inl rfl) | exact .inr (.inr (.inl rfl))) _ _ _ _ rfl rfl (by first | assumption | exact Eqv.refl _) (Eqv.refl _) ?_; intro z' m' ez)
    refine bodyPost_ret (v := .tuple #[.int .u64 j, .float .f64 z']) (by simp [results, Tryd.results26, go_sem]) rfl ?_
    rw [E10.out] at ez
    have hz := HZZ.out
    simp only [Bool.false_eq_true, if_false] at hz
    rw [← hz]
    exact ⟨_, _, rfl, ez, rfl⟩
  · simp only [if_true] at hb1 ho
    have HO := Lib.hid ho
    clear ho
    go_wp2_with (refine wpList_fop rfl _ _ _ _ _ rfl (by first | exact .inl rfl | exact .inr (.inl rfl) | exact .inr (.inr (.inl rfl))) _ _ _ _ rfl rfl (by first | assumption | exact Eqv.refl _) (Eqv.refl _) ?_; intro z' m' ez)
    refine bodyPost_ret (v := .tuple #[.int .u64 (bits .and .u64 (IntKind.u64.wrap (j + 1)) 7), .float .f64 z']) (by simp [results, Tryd.results26, go_sem]) rfl ?_
    rw [E10.out] at ez
    rw [HO.out]
    have hz := HZZ.out
    simp only [if_true] at hz
    rw [← hz]
    exact ⟨_, _, rfl, ez, rfl⟩
end Go.Proofs.YtpkhfknjajehnaaDoor.F64
