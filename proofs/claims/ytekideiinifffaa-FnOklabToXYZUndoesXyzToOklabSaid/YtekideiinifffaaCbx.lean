/- math.Cbrt and F64.Cbrt: contracts. -/
import Derived.Test.YtekideiinifffaaCbw
namespace Go.Proofs.Ytekideiinifffaa.CB
open Go Go.RowKit Go.Lib Go.Proofs.Ytekideiinifffaa.FL
set_option linter.unusedVariables false
/-- t is near the cube root of x. -/
def Cb (t x : Nat) : Prop := t < 2 ^ 64 ∧ FL.Fin t ∧ ∃ r : Rat, -(1 / 100000000000) ≤ r ∧ r ≤ 1 / 100000000000 ∧ rv t * rv t * rv t = rv x * (1 + r)
theorem f0 : FL.Fin 0 := by unfold FL.Fin; decide
theorem v0 : rv 0 = 0 := by decide +kernel
theorem fS : FL.Fin 4503599627370496 := by unfold FL.Fin; decide
theorem vS : rv 4503599627370496 = 4503599627370496 * p2 (-1074) := by unfold p2; decide +kernel
theorem pos_word {x : Nat} (hx : x < 2 ^ 64) (hf : FL.Fin x) (h : 0 < rv x) : 0 < x ∧ x < 9218868437227405312 := by
  obtain ⟨E, K, hK, hE, hw, he⟩ := fin_form hf
  have nK := mulp_nn K ((E : Int) - 1074)
  have hs : (x / 2 ^ 63 % 2 == 1) = false := by
    cases hh : (x / 2 ^ 63 % 2 == 1)
    · rfl
    · rw [hh] at he
      simp only [sg, if_true] at he
      grind
  have hs2 : ¬ x / 2 ^ 63 % 2 = 1 := by simpa using hs
  unfold FL.Fin at hf
  refine ⟨?_, by omega⟩
  rcases Nat.eq_zero_or_pos x with h0 | h0
  · subst h0
    rw [v0] at h
    grind
  · exact h0
theorem sub_lt {x : Nat} (h : x < 4503599627370496) : rv x < rv 4503599627370496 := by
  obtain ⟨_, hv⟩ := sub_rv h
  rw [hv, vS]
  have : (x : Rat) < 4503599627370496 := by exact_mod_cast h
  have := Rat.mul_lt_mul_of_pos_right this (p2_pos (-1074))
  exact this
theorem nor_ge {x : Nat} (h : 4503599627370496 ≤ x) (h2 : x < 9218868437227405312) : rv 4503599627370496 ≤ rv x := by
  have hf : FL.Fin x := by unfold FL.Fin; omega
  obtain ⟨E, K, hK, hE, hw, he⟩ := fin_form hf
  have hm : x % 2 ^ 63 = x := Nat.mod_eq_of_lt (by omega)
  have hs : (x / 2 ^ 63 % 2 == 1) = false := by
    have : x / 2 ^ 63 = 0 := by omega
    rw [this]; rfl
  rw [hs] at he
  rw [hm] at hw
  have K52 : 4503599627370496 ≤ K := by omega
  rw [he, vS]
  simp only [sg, Bool.false_eq_true, if_false]
  have a := Rat.mul_le_mul_of_nonneg_right (show (4503599627370496 : Rat) ≤ (K : Rat) by exact_mod_cast K52) (Rat.le_of_lt (p2_pos (-1074)))
  have b := Rat.mul_le_mul_of_nonneg_left (p2_le (show (-1074 : Int) ≤ (E : Int) - 1074 by omega)) (natCast_nn K)
  grind
/-- A positive argument: the branch, the guess, the words. -/
theorem posW {ax : Nat} (h0 : 0 < ax) (h1 : ax < 9218868437227405312) : ∃ b t0 t, (FloatKind.f64.format.order ax 4503599627370496 == some .lt) = b ∧ G0 ax b t0 ∧ CbW ax t0 t ∧ Near3 t ax := by
  have hf : FL.Fin ax := by unfold FL.Fin; omega
  have ho : (FloatKind.f64.format.order ax 4503599627370496 == some .lt) = decide (rv ax < rv 4503599627370496) := lt_iff hf fS
  by_cases hc : ax < 4503599627370496
  · obtain ⟨z, t, hz, z1, z2, hw, hn⟩ := cbS ax h0 hc
    refine ⟨true, z / 3 + BS, t, ?_, ⟨z2, by simp only [if_true]; exact ⟨z, hz, z1, rfl⟩⟩, hw, hn⟩
    rw [ho, decide_eq_true_iff]
    exact sub_lt hc
  · obtain ⟨t, hw, hn⟩ := cbN ax (by omega) h1
    refine ⟨false, ax / 3 + BB, t, ?_, ⟨by unfold BB; omega, by simp⟩, hw, hn⟩
    rw [ho, decide_eq_false_iff_not]
    have := nor_ge (show 4503599627370496 ≤ ax by omega) h1
    grind
theorem near_r {t x : Nat} (h : Near3 t x) (hp : 0 < rv x) : Cb t x := by
  obtain ⟨a, b, c, d⟩ := h
  have e : (rv t * rv t * rv t - rv x) / rv x * rv x = rv t * rv t * rv t - rv x := by rw [Rat.div_def, Rat.mul_assoc, Rat.inv_mul_cancel _ (by grind)]; grind
  refine ⟨a, b, (rv t * rv t * rv t - rv x) / rv x, ?_, ?_, by grind⟩
  · exact Rat.le_of_mul_le_mul_right (by rw [e]; grind) hp
  · exact Rat.le_of_mul_le_mul_right (by rw [e]; grind) hp
theorem neg_lt64 {x : Nat} (h : x < 2 ^ 64) : neg x < 2 ^ 64 := neg_lt h
theorem cbrt0 (x : Nat) (hx : x < 2 ^ 64) (hf : FL.Fin x) : ∃ t, Cb t x ∧ ∀ w, Calls Try.prog 26 #[.float .f64 x] w (fun e w' => e = .returned (.float .f64 t) ∧ w = w') := by
  have hl : (FloatKind.f64.format.order x 0 == some .lt) = decide (rv x < rv 0) := lt_iff hf f0
  have he : (FloatKind.f64.format.order x 0 == some .eq) = decide (rv x = rv 0) := eq_iff hf f0
  rw [v0] at hl he
  by_cases h0 : rv x = 0
  · refine ⟨x, ⟨hx, hf, 0, by decide +kernel, by decide +kernel, by rw [h0]; grind⟩, fun w => ?_⟩
    have e : (FloatKind.f64.format.order x 0 == some .eq) = true := by rw [he]; exact decide_eq_true h0
    clear hl he h0 hx hf
    go_enter Try.func26, Try.ntmps26
    go_wp2_with fail
    go_ret
    exact ⟨rfl, rfl⟩
  · have n0 : (FloatKind.f64.format.order x 0 == some .eq) = false := by rw [he]; exact decide_eq_false h0
    by_cases hp : 0 < rv x
    · obtain ⟨p1, p3⟩ := pos_word hx hf hp
      obtain ⟨b, t0, t, hb, hg, hw, hn⟩ := posW p1 p3
      refine ⟨t, near_r hn hp, fun w => ?_⟩
      exact cbrtM x x t0 t false b w hx hf n0 (by rw [hl]; exact decide_eq_false (by grind)) rfl (by omega) hb hg hw
    · have hn : rv (neg x) = - rv x := neg_rv hf
      have hnp : 0 < rv (neg x) := by rw [hn]; grind
      obtain ⟨p1, p3⟩ := pos_word (neg_lt hx) (neg_fin hf) hnp
      obtain ⟨b, t0, t, hb, hg, hw, hn3⟩ := posW p1 p3
      obtain ⟨c1, c2, r, r1, r2, c3⟩ := near_r hn3 hnp
      have ht : rv (neg t) = - rv t := neg_rv c2
      refine ⟨neg t, ⟨neg_lt c1, neg_fin c2, r, r1, r2, ?_⟩, fun w => ?_⟩
      · rw [ht]
        have : rv (x ^^^ 2 ^ 63) = - rv x := neg_rv hf
        rw [show (rv (x ^^^ 2 ^ 63)) = -rv x from neg_rv hf] at c3
        grind
      · exact cbrtM x (neg x) t0 t true b w hx hf n0 (by rw [hl]; exact decide_eq_true (by grind)) rfl (by show x ^^^ 2 ^ 63 < 2 ^ 63; omega) hb hg hw
theorem cbrt1 (x : Nat) (hx : x < 2 ^ 64) (hf : FL.Fin x) : ∃ t, Cb t x ∧ ∀ w, Calls Try.prog 23 #[.float .f64 x] w (fun e w' => e = .returned (.float .f64 t) ∧ w = w') := by
  obtain ⟨t, h, k⟩ := cbrt0 x hx hf
  refine ⟨t, h, fun w => ?_⟩
  have K := Lib.hid k
  clear h k hx hf
  go_enter Try.func23, Try.ntmps23
  go_wp2_with (go_at_call 26; refine (K.out _).mono ?_; rintro e w' ⟨rfl, rfl⟩)
  go_ret
  exact ⟨rfl, rfl⟩
theorem cbrtV (x : Nat) (hx : x < 2 ^ 64) (hf : FL.Fin x) : ∃ t, Cb t x ∧ ∀ w : World, Calls Try.prog 19 #[.agg #[.float .f64 x]] w (fun e w' => e = .returned (.agg #[.float .f64 t]) ∧ Below w.heap.size w w') := by
  obtain ⟨t, h, k⟩ := cbrt1 x hx hf
  refine ⟨t, h, fun w => ?_⟩
  have K := Lib.hid k
  clear h k hx hf
  go_enter Try.func19, Try.ntmps19
  go_wp2_with fail
  refine (K.out _).mono ?_
  rintro e w1 ⟨rfl, rfl⟩
  go_wp2_with fail
  refine (F64.newF64 t _).mono ?_
  rintro e w1 ⟨rfl, hb⟩
  obtain ⟨hc, hf⟩ := F64.bcell hb
  have hz : w.heap.size + 1 < w1.heap.size := by have := hb.size; simp at this; omega
  go_wp2
  refine bodyPost_ret (v := .agg #[.float .f64 t]) (by simp [results, Try.results19, go_sem, hc]) rfl ⟨rfl, ?_⟩
  exact ((((Below.refl _ _).alloc (Nat.le_refl _) _).alloc (by simp) _).trans (hb.mono (by simp; omega))).setCell (by simp) _
end Go.Proofs.Ytekideiinifffaa.CB
