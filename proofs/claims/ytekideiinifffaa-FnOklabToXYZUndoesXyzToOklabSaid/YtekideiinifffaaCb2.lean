/- math.Cbrt's rough guess: the cube root of the word's exponent. Plain numerics. -/
import Derived.Test.YtekideiinifffaaCb1
namespace Go.Proofs.Ytekideiinifffaa.CB
open Go.Proofs.Ytekideiinifffaa.FL Go.Proofs.Ytekideiinifffaa.PO
set_option linter.unusedVariables false
def bb : Rat := 4354697406185472 / 4503599627370496
def ep : Rat := 1 / 281474976710656
def A2 : List Rat := [bb, 1]
def A1 : List Rat := [1 / 2 + bb / 2, 1 / 2]
def cu (p : List Rat) : List Rat := mulL p (mulL p p)
theorem ev_A2 (u : Rat) : ev A2 u = bb + u := by unfold A2; simp only [ev]; grind
theorem ev_A1 (u : Rat) : ev A1 u = (1 + u + bb) / 2 := by unfold A1; simp only [ev]; grind
theorem ev_cu (p : List Rat) (u : Rat) : ev (cu p) u = ev p u * ev p u * ev p u := by unfold cu; rw [ev_mul, ev_mul]; grind
theorem lo20 : cover (addL (cu A2) [-(9 / 10) * (1 + 4 * ep), -(9 / 10) * 3]) (3 / 100) (1 / 100) 31 = true := by decide +kernel
theorem up20 : cover (addL [112 / 100 * (1), 112 / 100 * 3] (scl (-1) (cu A2))) (3 / 100) (1 / 100) 31 = true := by decide +kernel
theorem bd20 (u : Rat) (h1 : 3 / 100 ≤ u) (h2 : u ≤ 3 / 100 + 31 / 100) : 9 / 10 * (1 + 4 * ep + 3 * u) ≤ ev A2 u * ev A2 u * ev A2 u ∧ ev A2 u * ev A2 u * ev A2 u ≤ 112 / 100 * (1 + 3 * u) := by
  have nn : ((31 : Nat) : Rat) = 31 := rfl
  have a := cover_le _ (1 / 100) (by decide +kernel) 31 _ lo20 (by omega) u h1 (by rw [nn]; grind)
  have b := cover_le _ (1 / 100) (by decide +kernel) 31 _ up20 (by omega) u h1 (by rw [nn]; grind)
  rw [ev_add, ev_cu] at a
  rw [ev_add, ev_scl, ev_cu] at b
  generalize ev A2 u * ev A2 u * ev A2 u = t at *
  simp only [ev] at a b
  constructor <;> grind
theorem lo21 : cover (addL (cu A2) [-(9 / 10) * (0 + 4 * ep), -(9 / 10) * 6]) (33 / 100) (1 / 100) 34 = true := by decide +kernel
theorem up21 : cover (addL [112 / 100 * (0), 112 / 100 * 6] (scl (-1) (cu A2))) (33 / 100) (1 / 100) 34 = true := by decide +kernel
theorem bd21 (u : Rat) (h1 : 33 / 100 ≤ u) (h2 : u ≤ 33 / 100 + 34 / 100) : 9 / 10 * (0 + 4 * ep + 6 * u) ≤ ev A2 u * ev A2 u * ev A2 u ∧ ev A2 u * ev A2 u * ev A2 u ≤ 112 / 100 * (0 + 6 * u) := by
  have nn : ((34 : Nat) : Rat) = 34 := rfl
  have a := cover_le _ (1 / 100) (by decide +kernel) 34 _ lo21 (by omega) u h1 (by rw [nn]; grind)
  have b := cover_le _ (1 / 100) (by decide +kernel) 34 _ up21 (by omega) u h1 (by rw [nn]; grind)
  rw [ev_add, ev_cu] at a
  rw [ev_add, ev_scl, ev_cu] at b
  generalize ev A2 u * ev A2 u * ev A2 u = t at *
  simp only [ev] at a b
  constructor <;> grind
theorem lo22 : cover (addL (cu A2) [-(9 / 10) * (-4 + 4 * ep), -(9 / 10) * 12]) (66 / 100) (1 / 100) 34 = true := by decide +kernel
theorem up22 : cover (addL [112 / 100 * (-4), 112 / 100 * 12] (scl (-1) (cu A2))) (66 / 100) (1 / 100) 34 = true := by decide +kernel
theorem bd22 (u : Rat) (h1 : 66 / 100 ≤ u) (h2 : u ≤ 66 / 100 + 34 / 100) : 9 / 10 * (-4 + 4 * ep + 12 * u) ≤ ev A2 u * ev A2 u * ev A2 u ∧ ev A2 u * ev A2 u * ev A2 u ≤ 112 / 100 * (-4 + 12 * u) := by
  have nn : ((34 : Nat) : Rat) = 34 := rfl
  have a := cover_le _ (1 / 100) (by decide +kernel) 34 _ lo22 (by omega) u h1 (by rw [nn]; grind)
  have b := cover_le _ (1 / 100) (by decide +kernel) 34 _ up22 (by omega) u h1 (by rw [nn]; grind)
  rw [ev_add, ev_cu] at a
  rw [ev_add, ev_scl, ev_cu] at b
  generalize ev A2 u * ev A2 u * ev A2 u = t at *
  simp only [ev] at a b
  constructor <;> grind
theorem lo10 : cover (addL (cu A1) [-(9 / 10) * (1 + 4 * ep), -(9 / 10) * 3]) (0) (1 / 100) 4 = true := by decide +kernel
theorem up10 : cover (addL [112 / 100 * (1), 112 / 100 * 3] (scl (-1) (cu A1))) (0) (1 / 100) 4 = true := by decide +kernel
theorem bd10 (u : Rat) (h1 : 0 ≤ u) (h2 : u ≤ 0 + 4 / 100) : 9 / 10 * (1 + 4 * ep + 3 * u) ≤ ev A1 u * ev A1 u * ev A1 u ∧ ev A1 u * ev A1 u * ev A1 u ≤ 112 / 100 * (1 + 3 * u) := by
  have nn : ((4 : Nat) : Rat) = 4 := rfl
  have a := cover_le _ (1 / 100) (by decide +kernel) 4 _ lo10 (by omega) u h1 (by rw [nn]; grind)
  have b := cover_le _ (1 / 100) (by decide +kernel) 4 _ up10 (by omega) u h1 (by rw [nn]; grind)
  rw [ev_add, ev_cu] at a
  rw [ev_add, ev_scl, ev_cu] at b
  generalize ev A1 u * ev A1 u * ev A1 u = t at *
  simp only [ev] at a b
  constructor <;> grind
def BB : Nat := 3071306043645493248
/-- What the guess is: q the exponent's third, a the guess over 2^q, y the number over 2^(3q). -/
structure Rough (x : Nat) (q : Int) (a y : Rat) : Prop where
  vx : rv x = y * p2 (3 * q)
  fin : FL.Fin (x / 3 + BB)
  lt : x / 3 + BB < 2 ^ 63
  va : rv (x / 3 + BB) = a * p2 q
  y1 : 1 ≤ y
  y8 : y ≤ 8
  a1 : 9 / 10 ≤ a
  a2 : a ≤ 2
  lo : 9 / 10 * y ≤ a * a * a
  up : a * a * a ≤ 112 / 100 * y
  q1 : -341 ≤ q
  q2 : q ≤ 341
theorem e52 : p2 (-52) = 1 / 4503599627370496 := by unfold p2; decide +kernel
theorem e53 : p2 (-53) = 1 / 9007199254740992 := by unfold p2; decide +kernel
/-- The whole numbers in it. -/
structure Parts (x E K k r F U : Nat) : Prop where
  x_eq : x = E * 4503599627370496 + K
  K_eq : K = 4503599627370496 + F
  E_eq : E + 1 = 3 * k + r
  r3 : r < 3
  x3 : x / 3 = k * 4503599627370496 + U
  U1 : 3 * U ≤ r * 4503599627370496 + F
  U2 : r * 4503599627370496 + F ≤ 3 * U + 2
  F2 : F < 4503599627370496
  kl : k ≤ 682
  rvx : rv x = K * p2 ((E : Int) - 1074)
set_option maxRecDepth 100000 in
theorem parts (x : Nat) (h1 : 4503599627370496 ≤ x) (hf : x < 9218868437227405312) : ∃ E K k r F U, Parts x E K k r F U := by
  have hfin : FL.Fin x := by unfold FL.Fin; omega
  obtain ⟨E, K, hK, hE, hw, hv⟩ := fin_form hfin
  have hx : x = E * 4503599627370496 + K := by omega
  have hs : (x / 2 ^ 63 % 2 == 1) = false := by
    have : ¬ x / 2 ^ 63 % 2 = 1 := by omega
    simpa using this
  rw [hs] at hv
  have hv2 : rv x = K * p2 ((E : Int) - 1074) := by
    rw [hv]; simp only [sg, Bool.false_eq_true, if_false]; grind
  clear hv hs hfin hw
  refine ⟨E, K, (E + 1) / 3, (E + 1) % 3, K - 4503599627370496, ((E + 1) % 3 * 4503599627370496 + (K - 4503599627370496)) / 3, ⟨hx, by omega, by omega, by omega, by omega, by omega, by omega, by omega, by omega, hv2⟩⟩
def dl : Rat := 1 / 1125899906842624
theorem dl_ep : dl ≤ ep := by decide +kernel
theorem dl_0 : 0 ≤ dl := by decide +kernel
theorem dl_1 : dl ≤ 1 / 100 := by decide +kernel
theorem ep_0 : 0 ≤ ep := by decide +kernel
theorem bb_1 : 96 / 100 ≤ bb := by decide +kernel
theorem bb_2 : bb ≤ 97 / 100 := by decide +kernel
theorem lin1 (U F r : Rat) (h : 3 * U ≤ r * 4503599627370496 + F) : 3 * (U * (1 / 4503599627370496)) ≤ r + F * (1 / 4503599627370496) := by grind
theorem lin2 (U F r : Rat) (h : r * 4503599627370496 + F ≤ 3 * U + 2) : r + F * (1 / 4503599627370496) ≤ 3 * (U * (1 / 4503599627370496)) + dl := by unfold dl; grind
theorem lin3 (F N : Rat) (h : F ≤ N) : F * (1 / 4503599627370496) ≤ N / 4503599627370496 := by grind
theorem lin4 (F N : Rat) (h : N ≤ F) : N / 4503599627370496 ≤ F * (1 / 4503599627370496) := by grind
theorem val (K F X Y : Rat) (h : K = 4503599627370496 + F) : K * (Y * (1 / 4503599627370496 * X)) = (Y * (1 + F * (1 / 4503599627370496))) * X := by subst h; grind
theorem valA (U X : Rat) : (8858297033555968 + U) * (1 / 9007199254740992 * X) = ((1 + U * (1 / 4503599627370496) + 4354697406185472 / 4503599627370496) / 2) * X := by grind
theorem valB (U X : Rat) : (U + 4354697406185472) * (1 / 4503599627370496 * X) = (4354697406185472 / 4503599627370496 + U * (1 / 4503599627370496)) * X := by grind
set_option maxRecDepth 100000 in
theorem guess1 (k U : Nat) (h : U + 4354697406185472 < 4503599627370496) (hk : k ≤ 682) : FL.Fin (k * 4503599627370496 + U + BB) ∧ k * 4503599627370496 + U + BB < 2 ^ 63 ∧
    rv (k * 4503599627370496 + U + BB) = ((1 + (U : Rat) * (1 / 4503599627370496) + bb) / 2) * p2 ((k : Int) - 341) := by
  have hW : k * 4503599627370496 + U + BB = (k + 680) * 2 ^ 52 + (8858297033555968 + U) := by unfold BB; omega
  have hrv := rung_val false (k + 680) (8858297033555968 + U) (by omega) (by omega) (by omega)
  have hww : Ieee.double.word false ((k + 680) * 2 ^ 52 + (8858297033555968 + U)) = (k + 680) * 2 ^ 52 + (8858297033555968 + U) := rfl
  rw [hww] at hrv
  rw [hW]
  refine ⟨by unfold FL.Fin; omega, by omega, ?_⟩
  rw [hrv]
  have hp0 : p2 (((k + 680 : Nat) : Int) - 1074) = p2 (-53) * p2 ((k : Int) - 341) := by rw [← p2_add, show ((k + 680 : Nat) : Int) - 1074 = -53 + ((k : Int) - 341) by omega]
  have hc : ((8858297033555968 + U : Nat) : Rat) = 8858297033555968 + (U : Rat) := by exact_mod_cast rfl
  rw [hp0, hc, e53]
  simp only [sg, Bool.false_eq_true, if_false]
  have := valA (U : Rat) (p2 ((k : Int) - 341))
  unfold bb
  grind
set_option maxRecDepth 100000 in
theorem guess2 (k U : Nat) (h : 4503599627370496 ≤ U + 4354697406185472) (hU : U < 4503599627370496) (hk : k ≤ 682) : FL.Fin (k * 4503599627370496 + U + BB) ∧ k * 4503599627370496 + U + BB < 2 ^ 63 ∧
    rv (k * 4503599627370496 + U + BB) = (bb + (U : Rat) * (1 / 4503599627370496)) * p2 ((k : Int) - 341) := by
  have hW : k * 4503599627370496 + U + BB = (k + 681) * 2 ^ 52 + (U + 4354697406185472) := by unfold BB; omega
  have hrv := rung_val false (k + 681) (U + 4354697406185472) (by omega) (by omega) (by omega)
  have hww : Ieee.double.word false ((k + 681) * 2 ^ 52 + (U + 4354697406185472)) = (k + 681) * 2 ^ 52 + (U + 4354697406185472) := rfl
  rw [hww] at hrv
  rw [hW]
  refine ⟨by unfold FL.Fin; omega, by omega, ?_⟩
  rw [hrv]
  have hp0 : p2 (((k + 681 : Nat) : Int) - 1074) = p2 (-52) * p2 ((k : Int) - 341) := by rw [← p2_add, show ((k + 681 : Nat) : Int) - 1074 = -52 + ((k : Int) - 341) by omega]
  have hc : ((U + 4354697406185472 : Nat) : Rat) = (U : Rat) + 4354697406185472 := by exact_mod_cast rfl
  rw [hp0, hc, e52]
  simp only [sg, Bool.false_eq_true, if_false]
  have := valB (U : Rat) (p2 ((k : Int) - 341))
  unfold bb
  grind
theorem key1 (u f : Rat) (u0 : 0 ≤ u) (u3 : u ≤ 4 / 100) (u1 : 3 * u ≤ 0 + f) (u2 : 0 + f ≤ 3 * u + dl) (f0 : 0 ≤ f) (f1 : f ≤ 1) :
    9 / 10 ≤ (1 + u + bb) / 2 ∧ (1 + u + bb) / 2 ≤ 2 ∧ 9 / 10 * (1 + f) ≤ (1 + u + bb) / 2 * ((1 + u + bb) / 2) * ((1 + u + bb) / 2) ∧ (1 + u + bb) / 2 * ((1 + u + bb) / 2) * ((1 + u + bb) / 2) ≤ 112 / 100 * (1 + f) := by
  obtain ⟨b1, b2⟩ := bd10 u u0 (by grind)
  rw [ev_A1] at b1 b2
  have d1 := dl_ep
  have d2 := dl_0
  have d3 := dl_1
  have d4 := ep_0
  have d5 := bb_1
  have d6 := bb_2
  generalize (1 + u + bb) / 2 * ((1 + u + bb) / 2) * ((1 + u + bb) / 2) = t at *
  refine ⟨by grind, by grind, by grind, by grind⟩
theorem key2 (r : Nat) (hr : r < 3) (u f : Rat) (u4 : 3 / 100 ≤ u) (ul : u ≤ 1) (u1 : 3 * u ≤ (r : Rat) + f) (u2 : (r : Rat) + f ≤ 3 * u + dl) (f0 : 0 ≤ f) (f1 : f ≤ 1) :
    1 ≤ p2 (r : Int) * (1 + f) ∧ p2 (r : Int) * (1 + f) ≤ 8 ∧ 9 / 10 * (p2 (r : Int) * (1 + f)) ≤ (bb + u) * (bb + u) * (bb + u) ∧ (bb + u) * (bb + u) * (bb + u) ≤ 112 / 100 * (p2 (r : Int) * (1 + f)) := by
  have d1 := dl_ep
  have d2 := dl_0
  have d3 := dl_1
  have d4 := ep_0
  rcases (by omega : r = 0 ∨ r = 1 ∨ r = 2) with rfl | rfl | rfl
  · have r0 : ((0 : Nat) : Rat) = 0 := rfl
    have hr1 : p2 ((0 : Nat) : Int) = 1 := by rw [show ((0 : Nat) : Int) = 0 by rfl, p2_zero]
    rw [r0] at u1 u2
    rw [hr1]
    obtain ⟨b1, b2⟩ := bd20 u u4 (by grind)
    rw [ev_A2] at b1 b2
    generalize (bb + u) * (bb + u) * (bb + u) = t at *
    refine ⟨by grind, by grind, by grind, by grind⟩
  · have r0 : ((1 : Nat) : Rat) = 1 := rfl
    have hr1 : p2 ((1 : Nat) : Int) = 2 := p2_one
    rw [r0] at u1 u2
    rw [hr1]
    obtain ⟨b1, b2⟩ := bd21 u (by grind) (by grind)
    rw [ev_A2] at b1 b2
    generalize (bb + u) * (bb + u) * (bb + u) = t at *
    refine ⟨by grind, by grind, by grind, by grind⟩
  · have r0 : ((2 : Nat) : Rat) = 2 := rfl
    have hr1 : p2 ((2 : Nat) : Int) = 4 := by unfold p2; decide +kernel
    rw [r0] at u1 u2
    rw [hr1]
    obtain ⟨b1, b2⟩ := bd22 u (by grind) (by grind)
    rw [ev_A2] at b1 b2
    generalize (bb + u) * (bb + u) * (bb + u) = t at *
    refine ⟨by grind, by grind, by grind, by grind⟩
theorem rough (x : Nat) (h1 : 4503599627370496 ≤ x) (hf : x < 9218868437227405312) : ∃ q a y, Rough x q a y := by
  obtain ⟨E, K, k, r, F, U, P⟩ := parts x h1 hf
  obtain ⟨x_eq, K_eq, E_eq, r3, x3, U1, U2, F2, kl, rvx⟩ := P
  clear h1 hf x_eq
  have hp : p2 ((E : Int) - 1074) = p2 (r : Int) * (p2 (-52) * p2 (3 * ((k : Int) - 341))) := by
    rw [← p2_add, ← p2_add]; congr 1; omega
  have hKF : (K : Rat) = 4503599627370496 + (F : Rat) := by exact_mod_cast K_eq
  have hvx : rv x = (p2 (r : Int) * (1 + (F : Rat) * (1 / 4503599627370496))) * p2 (3 * ((k : Int) - 341)) := by
    rw [rvx, hp, e52]; exact val _ _ _ _ hKF
  have u1 := lin1 (U : Rat) (F : Rat) (r : Rat) (by exact_mod_cast U1)
  have u2 := lin2 (U : Rat) (F : Rat) (r : Rat) (by exact_mod_cast U2)
  have f1 := lin3 (F : Rat) 4503599627370496 (by exact_mod_cast Nat.le_of_lt F2)
  have f0 : 0 ≤ (F : Rat) * (1 / 4503599627370496) := Rat.mul_nonneg (natCast_nn F) (by decide +kernel)
  have u0 : 0 ≤ (U : Rat) * (1 / 4503599627370496) := Rat.mul_nonneg (natCast_nn U) (by decide +kernel)
  have c1 : (4503599627370496 : Rat) / 4503599627370496 = 1 := by decide +kernel
  rw [c1] at f1
  have hUl : U < 4503599627370496 := by omega
  have hq1 : -341 ≤ (k : Int) - 341 := by omega
  have hq2 : (k : Int) - 341 ≤ 341 := by omega
  by_cases hc : U + 4354697406185472 < 4503599627370496
  · have hr0 : r = 0 := by omega
    obtain ⟨g1, g2, g3⟩ := guess1 k U hc kl
    rw [← x3] at g1 g2 g3
    have u3 := lin3 (U : Rat) 148902221185024 (by exact_mod_cast (show U ≤ 148902221185024 by omega))
    have c2 : (148902221185024 : Rat) / 4503599627370496 ≤ 4 / 100 := by decide +kernel
    subst hr0
    clear K_eq E_eq r3 x3 U1 U2 F2 kl rvx hp hKF hUl hc
    have r0 : ((0 : Nat) : Rat) = 0 := rfl
    have hr1 : p2 ((0 : Nat) : Int) = 1 := by rw [show ((0 : Nat) : Int) = 0 by rfl, p2_zero]
    rw [r0] at u1 u2
    rw [hr1] at hvx
    generalize (U : Rat) * (1 / 4503599627370496) = u at *
    generalize (F : Rat) * (1 / 4503599627370496) = f at *
    obtain ⟨k1, k2, k3, k4⟩ := key1 u f u0 (by grind) u1 u2 f0 f1
    exact ⟨_, _, 1 + f, ⟨by rw [hvx]; grind, g1, g2, g3, by grind, by grind, k1, k2, k3, k4, hq1, hq2⟩⟩
  · obtain ⟨g1, g2, g3⟩ := guess2 k U (by omega) hUl kl
    rw [← x3] at g1 g2 g3
    have u4 := lin4 (U : Rat) 148902221185024 (by exact_mod_cast (show 148902221185024 ≤ U by omega))
    have u5 := lin3 (U : Rat) 4503599627370496 (by exact_mod_cast Nat.le_of_lt hUl)
    have c2 : 3 / 100 ≤ (148902221185024 : Rat) / 4503599627370496 := by decide +kernel
    rw [c1] at u5
    clear K_eq E_eq x3 U1 U2 F2 kl rvx hp hKF hUl hc
    generalize (U : Rat) * (1 / 4503599627370496) = u at *
    generalize (F : Rat) * (1 / 4503599627370496) = f at *
    obtain ⟨k1, k2, k3, k4⟩ := key2 r r3 u f (by grind) u5 u1 u2 f0 f1
    have d5 := bb_1
    have d6 := bb_2
    exact ⟨_, _, _, ⟨hvx, g1, g2, g3, k1, k2, by grind, by grind, k3, k4, hq1, hq2⟩⟩
end Go.Proofs.Ytekideiinifffaa.CB

