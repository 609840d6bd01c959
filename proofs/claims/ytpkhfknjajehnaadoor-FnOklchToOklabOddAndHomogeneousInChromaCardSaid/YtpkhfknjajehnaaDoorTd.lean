/- math.trigReduce: for every great number one answer, up to a NaN. -/
import Derived.Test.YtpkhfknjajehnaaDoorTr
import Derived.Laws.BitsAllLaws
namespace Go.Proofs.YtpkhfknjajehnaaDoor.F64
open Go Go.RowKit Go.Lib Go.Proofs.YtpkhfknjajehnaaDoor.FL
set_option linter.unusedVariables false
theorem wrU (n : Int) : U64 (IntKind.u64.wrap n) := by
  have e : IntKind.u64.wrap n = n % 18446744073709551616 := by simp [IntKind.wrap, IntKind.bits, IntKind.signed]
  rw [e]; unfold U64; omega
theorem orU {a b : Int} (ha : U64 a) (hb : U64 b) : U64 (bits .or .u64 a b) := by
  obtain ⟨x, hx, rfl⟩ := u64_nat ha
  obtain ⟨y, hy, rfl⟩ := u64_nat hb
  rw [u64_or_nat x y hx hy]
  have h : x ||| y < 2 ^ 64 := Nat.or_lt_two_pow (by omega) (by omega)
  unfold U64; omega
theorem anU {a b : Int} (ha : U64 a) (hb : U64 b) : U64 (bits .andNot .u64 a b) := by
  obtain ⟨x, hx, rfl⟩ := u64_nat ha
  obtain ⟨y, hy, rfl⟩ := u64_nat hb
  rw [u64_andNot_nat x y hx hy]
  have h := Nat.and_le_left (n := x) (m := 18446744073709551615 - y)
  unfold U64; omega
theorem divU {a : Int} (ha : U64 a) (n : Nat) (hn : 0 < n) : U64 (a / (n : Int)) := by
  unfold U64 at *
  have h1 : 0 ≤ a / (n : Int) := Int.ediv_nonneg ha.1 (by omega)
  have h2 : a / (n : Int) ≤ a := Int.ediv_le_self _ ha.1
  omega
theorem divU2 {a : Int} (ha : U64 a) (k : Nat) : U64 (a / 2 ^ k) := by
  have := divU ha (2 ^ k) (Nat.pow_pos (by decide))
  rwa [Int.natCast_pow] at this
theorem and1 (J : Int) (h : 0 ≤ J) (h2 : J ≤ 8) : bits .and .u64 J 1 = J % 2 := by
  obtain ⟨n, rfl⟩ := Int.eq_ofNat_of_zero_le h
  have e := u64_and_nat n 1 (by omega) (by decide)
  rw [Nat.and_one_is_mod] at e
  exact e.trans (by omega)
theorem and7 (J : Int) (h : 0 ≤ J) (h2 : J ≤ 8) : bits .and .u64 J 7 = J % 8 := by
  obtain ⟨n, rfl⟩ := Int.eq_ofNat_of_zero_le h
  have e := u64_and_nat n 7 (by omega) (by decide)
  rw [show (7 : Nat) = 2 ^ 3 - 1 by decide, Nat.and_two_pow_sub_one_eq_mod] at e
  exact e.trans (by omega)
theorem natU (n : Nat) (h : n < 18446744073709551616) : U64 (n : Int) := by unfold U64; omega
theorem mulHi {a b : Int} (ha : U64 a) (hb : U64 b) : U64 ((a.toNat * b.toNat / 18446744073709551616 : Nat) : Int) := by
  refine natU _ ?_
  rw [Nat.div_lt_iff_lt_mul (by decide)]
  have h1 : a.toNat < 18446744073709551616 := by unfold U64 at ha; omega
  have h2 : b.toNat < 18446744073709551616 := by unfold U64 at hb; omega
  exact Nat.mul_lt_mul'' h1 h2
theorem mulLo (n : Nat) : U64 ((n % 18446744073709551616 : Nat) : Int) := natU _ (Nat.mod_lt _ (by decide))
theorem addI (x y c : Int) (hx : U64 x) (hy : U64 y) (hc : c = 0 ∨ c = 1) : ∃ r d, U64 r ∧ (d = 0 ∨ d = 1) ∧ ∀ w, (callFunc 30 #[.int .u64 x, .int .u64 y, .int .u64 c]).run Tryd.prog w = .ok (.value (.tuple #[.int .u64 r, .int .u64 d])) w := by
  have hc' : 0 ≤ c ∧ c ≤ 1 := by omega
  refine ⟨_, _, ?_, ?_, fun w => add64I x y c hx hy hc' w⟩
  · unfold U64 at *; omega
  · unfold U64 at *; omega
theorem lzN (H : Int) (h : U64 H) : ∃ n : Nat, n ≤ 64 ∧ (64 - (Lib.bitLen H.toNat : Int)) = n := by
  have := Lib.bitLen_le H.toNat 64 (Nat.le_refl _) (by unfold U64 at h; omega)
  exact ⟨64 - Lib.bitLen H.toNat, by omega, by omega⟩
theorem natOf {z : Int} (h : U64 z) : ∃ n : Nat, z = n := Int.eq_ofNat_of_zero_le h.1
theorem octJ (j : Int) (h0 : 0 ≤ j) (h8 : j < 8) : ∃ (p : Bool) (o : Int), bits .and .u64 j 1 = (if p then 1 else 0) ∧ (if p then bits .and .u64 (IntKind.u64.wrap (j + 1)) 7 else j) = o ∧ (o = 0 ∨ o = 2 ∨ o = 4 ∨ o = 6) := by
  have e1 := and1 j h0 (by omega)
  have e2 : IntKind.u64.wrap (j + 1) = j + 1 := IntWalk.u64_in _ (by omega)
  have e3 := and7 (j + 1) (by omega) (by omega)
  rw [e1, e2, e3]
  clear e1 e2 e3
  by_cases h : j % 2 = 1
  · refine ⟨true, (j + 1) % 8, ?_, ?_, by omega⟩
    · show j % 2 = 1
      omega
    · rfl
  · refine ⟨false, j, ?_, ?_, by omega⟩
    · show j % 2 = 0
      omega
    · rfl
/-- What is needed of a great number: its exponent, and that it is not less than a quarter of pi. -/
theorem trR (x : Nat) (hx : x < 2 ^ 63) (h1 : 1014 ≤ x / 2 ^ 52) (h2 : x / 2 ^ 52 ≤ 2046) (hlt : (FloatKind.f64.format.order x 4605249457297304856 == some .lt) = false) :
    ∃ o z, (o = 0 ∨ o = 2 ∨ o = 4 ∨ o = 6) ∧ ∀ w, MP w → Calls Tryd.prog 26 #[.float .f64 x] (w.drewN 0) (TP o z w) := by
  obtain ⟨E, hE⟩ : ∃ E, x / 2 ^ 52 = E := ⟨_, rfl⟩
  obtain ⟨S, hS⟩ : ∃ S, E - 1014 = S := ⟨_, rfl⟩
  obtain ⟨D, hD⟩ : ∃ D, S / 64 = D := ⟨_, rfl⟩
  obtain ⟨B, hB⟩ : ∃ B, S % 64 = B := ⟨_, rfl⟩
  rw [hE] at h1 h2
  have ux : U64 (x : Int) := natU _ (by omega)
  obtain ⟨M, hM, uM⟩ : ∃ M, bits .or .u64 (bits .andNot .u64 (x : Int) 9218868437227405312) 4503599627370496 = M ∧ U64 M := ⟨_, rfl, orU (anU ux (by unfold U64; decide)) (by unfold U64; decide)⟩
  obtain ⟨z0, hz0, u0⟩ : ∃ z, bits .or .u64 (IntKind.u64.wrap (mp D * 2 ^ B)) (mp (D + 1) / 2 ^ (64 - B)) = z ∧ U64 z := ⟨_, rfl, orU (wrU _) (divU2 (mp_u64 _) _)⟩
  obtain ⟨z1, hz1, u1⟩ : ∃ z, bits .or .u64 (IntKind.u64.wrap (mp (D + 1) * 2 ^ B)) (mp (D + 2) / 2 ^ (64 - B)) = z ∧ U64 z := ⟨_, rfl, orU (wrU _) (divU2 (mp_u64 _) _)⟩
  obtain ⟨z2, hz2, u2⟩ : ∃ z, bits .or .u64 (IntKind.u64.wrap (mp (D + 2) * 2 ^ B)) (mp (D + 3) / 2 ^ (64 - B)) = z ∧ U64 z := ⟨_, rfl, orU (wrU _) (divU2 (mp_u64 _) _)⟩
  obtain ⟨H2, e1, v1⟩ : ∃ H, ((z2.toNat * M.toNat / 18446744073709551616 : Nat) : Int) = H ∧ U64 H := ⟨_, rfl, mulHi u2 uM⟩
  obtain ⟨H1, e2, v2⟩ : ∃ H, ((z1.toNat * M.toNat / 18446744073709551616 : Nat) : Int) = H ∧ U64 H := ⟨_, rfl, mulHi u1 uM⟩
  obtain ⟨l1, e3, v3⟩ : ∃ H, ((z1.toNat * M.toNat % 18446744073709551616 : Nat) : Int) = H ∧ U64 H := ⟨_, rfl, mulLo _⟩
  obtain ⟨q, e4, v4⟩ : ∃ H, IntKind.u64.wrap (z0 * M) = H ∧ U64 H := ⟨_, rfl, wrU _⟩
  obtain ⟨lo, cc, v5, c5, t3⟩ := addI l1 H2 0 v3 v1 (.inl rfl)
  obtain ⟨hi, c2, v6, c6, t4⟩ := addI q H1 cc v4 v2 c5
  obtain ⟨H3, e5, v7⟩ : ∃ H, bits .or .u64 (IntKind.u64.wrap (hi * 8)) (lo / 2305843009213693952) = H ∧ U64 H := ⟨_, rfl, orU (wrU _) (divU v5 2305843009213693952 (by decide))⟩
  obtain ⟨j, e6, j0, j8⟩ : ∃ j, hi / 2305843009213693952 = j ∧ 0 ≤ j ∧ j < 8 := ⟨_, rfl, by unfold U64 at v6; omega, by unfold U64 at v6; omega⟩
  obtain ⟨n, hn, e7⟩ := lzN H3 v7
  obtain ⟨L1, e8⟩ := natOf (wrU ((n : Int) + 1))
  obtain ⟨L2, e9⟩ := natOf (wrU (64 - (L1 : Int)))
  obtain ⟨p, o, hb1, ho, hoct⟩ := octJ j j0 j8
  exact ⟨o, _, hoct, fun w hw => trT x E S D B M z0 z1 z2 H2 H1 l1 q lo cc hi c2 H3 j n L1 L2 w hw hlt hx hE h1 h2 hS hD hB hM uM u0 u1 u2 hz0 hz1 hz2 e1 e2 e3 e4 t3 t4 v7 e5 e6 e7 hn e8 e9 _ rfl p o hb1 ho _ rfl⟩
end Go.Proofs.YtpkhfknjajehnaaDoor.F64
