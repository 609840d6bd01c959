/- The square root of a word: what its square misses. -/
import Derived.Test.YtnkpcjmmingkkaaDoorFloat
namespace Go.Proofs.YtnkpcjmmingkkaaDoor.FL
open Go Ieee
theorem rootFrom_spec (n : Nat) : ∀ (todo r : Nat), r * r ≤ n → n < (r + 2 ^ todo) * (r + 2 ^ todo) → Datum.rootFrom n todo r * Datum.rootFrom n todo r ≤ n ∧ n < (Datum.rootFrom n todo r + 1) * (Datum.rootFrom n todo r + 1)
  | 0, r, h1, h2 => by simpa [Datum.rootFrom] using ⟨h1, h2⟩
  | t + 1, r, h1, h2 => by
    have e : r + 1 <<< t = r + 2 ^ t := by rw [Nat.shiftLeft_eq, Nat.one_mul]
    rw [Datum.rootFrom]
    simp only [e]
    by_cases h : (r + 2 ^ t) * (r + 2 ^ t) ≤ n
    · rw [if_pos h]
      refine rootFrom_spec n t _ h ?_
      rw [Nat.add_assoc, ← Nat.two_mul, ← Nat.pow_succ']
      exact h2
    · rw [if_neg h]
      exact rootFrom_spec n t r h1 (by omega)
theorem whole_spec (n : Nat) : Datum.rootFrom n (n.log2 / 2 + 1) 0 * Datum.rootFrom n (n.log2 / 2 + 1) 0 ≤ n ∧ n < (Datum.rootFrom n (n.log2 / 2 + 1) 0 + 1) * (Datum.rootFrom n (n.log2 / 2 + 1) 0 + 1) := by
  refine rootFrom_spec n _ 0 (by omega) ?_
  rw [Nat.zero_add, ← Nat.pow_add]
  have h := Nat.lt_log2_self (n := n)
  exact Nat.lt_of_lt_of_le h (Nat.pow_le_pow_right (by omega) (by omega))
theorem read_fin2 {w : Nat} (h : Fin w) : ∃ m p, double.read w = .number (w / 2 ^ 63 % 2 == 1) m p ∧ m < 2 ^ 53 ∧ -1074 ≤ p := by
  by_cases h1 : w % 2 ^ 63 < 2 ^ 52
  · exact ⟨_, _, read_sub h1, by omega, by omega⟩
  · exact ⟨_, _, read_nor h1 h, by omega, by omega⟩
/-- A near root squares to a near number. -/
theorem near_sq {v r x : Rat} (hv : 0 ≤ v) (h1 : -(x / 4503599627370496) ≤ v * v - x) (h2 : v * v - x ≤ x / 4503599627370496) (h3 : -(v / 4503599627370496) ≤ r - v) (h4 : r - v ≤ v / 4503599627370496) : -(x / 1000000000000000) ≤ r * r - x ∧ r * r - x ≤ x / 1000000000000000 := by
  have q := Rat.mul_nonneg hv hv
  have a := mul_abs (x := v) (d := r - v) (X := v) (E := v / 4503599627370496) (by grind) (by grind) h3 h4
  have b := mul_abs h3 h4 h3 h4
  have e1 : v * (v / 4503599627370496) = v * v / 4503599627370496 := by grind
  have e2 : v / 4503599627370496 * (v / 4503599627370496) = v * v / 20282409603651670423947251286016 := by grind
  have id : r * r = v * v + 2 * (v * (r - v)) + (r - v) * (r - v) := by grind
  rw [e1] at a
  rw [e2] at b
  rw [id]
  generalize v * v = Q at *
  generalize v * (r - v) = A at *
  generalize (r - v) * (r - v) = B at *
  constructor <;> grind
theorem nat_bd {a b : Nat} (h : a ≤ b) : (a : Rat) ≤ (b : Rat) := Rat.natCast_le_natCast.2 h
/-- The root, squared, is near. -/
theorem sqrt_rnd {x : Nat} (hx : Fin x) (h0 : 0 ≤ rv x) (h1 : rv x ≤ p2 1000) : ∃ z, double.sqrt x = some z ∧ z < 2 ^ 64 ∧ Fin z ∧ 0 ≤ rv z ∧ -(rv x / 1000000000000000) ≤ rv z * rv z - rv x ∧ rv z * rv z - rv x ≤ rv x / 1000000000000000 := by
  obtain ⟨m, i, e, hm, hi⟩ := read_fin2 hx
  have hv := rv_read e
  generalize (x / 2 ^ 63 % 2 == 1) = s at *
  unfold Format.sqrt
  rw [e]
  by_cases hm0 : m = 0
  · subst hm0
    refine ⟨double.nearest s 0 i, rfl, ?_⟩
    rw [nearest_zero, rv_word_zero]
    have hx0 : rv x = 0 := by rw [hv]; simp
    rw [hx0]
    exact ⟨word_lt _ _ (by omega), by unfold Fin; rw [word_mod _ _ (by omega)]; omega, by decide +kernel, by decide +kernel, by decide +kernel⟩
  · have mp : 0 < (m : Rat) * p2 i := Rat.mul_pos (by exact_mod_cast Nat.pos_of_ne_zero hm0) (p2_pos i)
    cases s with
    | true => exfalso; rw [hv] at h0; simp only [sg, if_true] at h0; grind
    | false =>
      have hv' : rv x = (m : Rat) * p2 i := by rw [hv]; simp [sg]
      obtain ⟨more, hmore⟩ : ∃ more, 2 * (double.fractionBits + 2) - m.log2 + ((i - ((2 * (double.fractionBits + 2) - m.log2 : Nat) : Int)) % 2).toNat = more := ⟨_, rfl⟩
      obtain ⟨k, hk⟩ : ∃ k : Int, i - (more : Int) = 2 * k := ⟨(i - more) / 2, by omega⟩
      have hfb : double.fractionBits = 52 := rfl
      have hl : 2 * (double.fractionBits + 2) ≤ m.log2 + more ∧ more ≤ 109 := by omega
      obtain ⟨w, hw⟩ : ∃ w, Datum.rootFrom (m <<< more) ((m <<< more).log2 / 2 + 1) 0 = w := ⟨_, rfl⟩
      obtain ⟨w1, w2⟩ := whole_spec (m <<< more)
      rw [hw] at w1 w2
      rw [Nat.shiftLeft_eq] at w1 w2
      obtain ⟨d, hd, hd1⟩ : ∃ d : Nat, (w * w != m <<< more).toNat = d ∧ d ≤ 1 := ⟨_, rfl, by cases (w * w != m <<< more) <;> decide⟩
      have hr : Datum.root (double.fractionBits + 2) (.number false m i) = some (.number false (2 * w + d) (k - 1)) := by
        show (if m = 0 then _ else if false = true then _ else _) = _
        rw [if_neg hm0, if_neg (by decide)]
        simp only [hmore, hw, hd]
        rw [show (i - (more : Int)) / 2 - 1 = k - 1 by omega]
      rw [hr]
      refine ⟨double.nearest false (2 * w + d) (k - 1), rfl, ?_⟩
      -- sizes
      have hn : 2 ^ 108 ≤ m * 2 ^ more := by
        have a := Nat.log2_self_le hm0
        calc 2 ^ 108 ≤ 2 ^ (m.log2 + more) := Nat.pow_le_pow_right (by omega) (by omega)
          _ = 2 ^ m.log2 * 2 ^ more := Nat.pow_add ..
          _ ≤ m * 2 ^ more := Nat.mul_le_mul_right _ a
      have hw54 : 2 ^ 54 ≤ w := by
        apply Classical.byContradiction
        intro hc
        have : (w + 1) * (w + 1) ≤ 2 ^ 54 * 2 ^ 54 := Nat.mul_le_mul (by omega) (by omega)
        omega
      have hnx : rv x = ((m * 2 ^ more : Nat) : Rat) * (p2 k * p2 k) := by
        rw [hv', Rat.natCast_mul, ← p2_nat, ← p2_add, Rat.mul_assoc, ← p2_add]
        rw [show ((more : Nat) : Int) + (k + k) = i by omega]
      generalize m * 2 ^ more = n at *
      clear hv hv' mp hmore hw hr e hd
      have c1 := nat_bd w1
      have c2 := nat_bd (show n + 1 ≤ (w + 1) * (w + 1) by omega)
      have c3 := nat_bd hw54
      have c4 := nat_bd hd1
      have c5 : (0 : Rat) ≤ (d : Rat) := natCast_nn d
      rw [Rat.natCast_mul] at c1 c2
      rw [Rat.natCast_add, Rat.natCast_add] at c2
      rw [show (((2 ^ 54 : Nat)) : Rat) = 18014398509481984 by rfl] at c3
      rw [show (((1 : Nat)) : Rat) = 1 by rfl] at c2 c4
      have hvv : ((2 * w + d : Nat) : Rat) * p2 (k - 1) = ((w : Rat) + (d : Rat) / 2) * p2 k := by
        have : p2 k = 2 * p2 (k - 1) := by
          have a := p2_add 1 (k - 1)
          rw [show 1 + (k - 1) = k by omega, p2_one] at a
          exact a
        rw [this, Rat.natCast_add, Rat.natCast_mul, show (((2 : Nat)) : Rat) = 2 by rfl]; grind
      have pk := p2_pos k
      have pkk := Rat.mul_pos pk pk
      have hk1 := p2_le (show (-592 : Int) ≤ k by omega)
      have hdd := mul_abs (x := (d : Rat)) (d := (d : Rat)) (X := 1) (E := 1) (by grind) c4 (by grind) c4
      have hd0 := Rat.mul_nonneg c5 c5
      have hwd := Rat.mul_nonneg (show 0 ≤ (w : Rat) by grind) c5
      have hwd1 := Rat.mul_nonneg (show 0 ≤ (w : Rat) by grind) (show 0 ≤ 1 - (d : Rat) by grind)
      have hww := Rat.mul_nonneg (show 0 ≤ (w : Rat) by grind) (show 0 ≤ (w : Rat) - 18014398509481984 by grind)
      obtain ⟨V, hV⟩ : ∃ V : Rat, ((w : Rat) + (d : Rat) / 2) * p2 k = V := ⟨_, rfl⟩
      have sq1 : -((n : Rat) / 4503599627370496) ≤ ((w : Rat) + (d : Rat) / 2) * ((w : Rat) + (d : Rat) / 2) - (n : Rat) ∧ ((w : Rat) + (d : Rat) / 2) * ((w : Rat) + (d : Rat) / 2) - (n : Rat) ≤ (n : Rat) / 4503599627370496 := by
        have id : ((w : Rat) + (d : Rat) / 2) * ((w : Rat) + (d : Rat) / 2) = (w : Rat) * w + (w : Rat) * d + (d : Rat) * d / 4 := by grind
        rw [id]
        constructor <;> grind
      have hVV : V * V - rv x = (((w : Rat) + (d : Rat) / 2) * ((w : Rat) + (d : Rat) / 2) - (n : Rat)) * (p2 k * p2 k) := by rw [← hV, hnx]; grind
      have sq2 := Rat.mul_le_mul_of_nonneg_right sq1.1 (Rat.le_of_lt pkk)
      have sq3 := Rat.mul_le_mul_of_nonneg_right sq1.2 (Rat.le_of_lt pkk)
      rw [← hVV] at sq2 sq3
      have s2 : -(rv x / 4503599627370496) ≤ V * V - rv x := by rw [hnx] at sq2 ⊢; grind
      have s3 : V * V - rv x ≤ rv x / 4503599627370496 := by rw [hnx] at sq3 ⊢; grind
      have hV0 : p2 (-538) ≤ V := by
        have a : p2 (-538) = 18014398509481984 * p2 (-592) := by
          rw [show (-538 : Int) = 54 + -592 by omega, p2_add, show p2 54 = 18014398509481984 by unfold p2; decide +kernel]
        have b := Rat.mul_le_mul_of_nonneg_left hk1 (show (0 : Rat) ≤ 18014398509481984 by decide +kernel)
        have c := Rat.mul_le_mul_of_nonneg_right (show (18014398509481984 : Rat) ≤ (w : Rat) + (d : Rat) / 2 by grind) (Rat.le_of_lt pk)
        rw [← hV, a]; grind
      have pV := p2_pos (-538)
      have heta : eta ≤ V / 1152921504606846976 := by
        have a : eta = p2 (-537) * p2 (-538) := by unfold eta; rw [← p2_add]; rfl
        have b : p2 (-537) ≤ 1 / 1152921504606846976 := by unfold p2; decide +kernel
        have c := Rat.mul_le_mul_of_nonneg_right b (Rat.le_of_lt pV)
        rw [a]; grind
      have big : V ≤ p2 1023 := by
        apply Classical.byContradiction
        intro hc
        have b4 := big_le
        have a := mul_abs (x := p2 1023) (d := p2 1023 - 4) (X := p2 1023) (E := p2 1023) (by grind) (by grind) (by grind) (by grind)
        have p1 := Rat.mul_nonneg (show 0 ≤ p2 1023 by grind) (show 0 ≤ p2 1023 - 4 by grind)
        have p2' := Rat.mul_nonneg (show 0 ≤ V - p2 1023 by grind) (show 0 ≤ V + p2 1023 by grind)
        have p3 := p2_le (show (1000 : Int) ≤ 1023 by omega)
        grind
      obtain ⟨R, -⟩ := rnd_nearest false (2 * w + d) (k - 1) (by rw [hvv, hV]; exact big)
      have ev : sg false * ((2 * w + d : Nat) : Rat) * p2 (k - 1) = V := by rw [Rat.mul_assoc, hvv, hV]; simp [sg]
      rw [ev] at R
      have er := R.err V (by grind) (by grind)
      rw [u53_eq] at er
      have z0 := R.above (double.word false 0) (by unfold Fin; rw [word_mod _ _ (by omega)]; omega) (by rw [rv_word_zero]; grind)
      rw [rv_word_zero] at z0
      have ns := near_sq (v := V) (r := rv (double.nearest false (2 * w + d) (k - 1))) (x := rv x) (by grind) s2 s3 (by grind) (by grind)
      exact ⟨R.lt, R.fin, z0, ns.1, ns.2⟩
end Go.Proofs.YtnkpcjmmingkkaaDoor.FL
