/- lab_to_xyz: each channel is a function of its operands and never falls by more than a rounding. Plain Lean. -/
import Derived.Test.YtkeagmiolapgpaaLab
namespace Go.Proofs.Ytkeagmiolapgpaa.F64
open Go.Proofs.Ytkeagmiolapgpaa.FL

def RN (v : Rat) (z : Nat) : Prop := Rnd v z ∧ IsNear v z
theorem RN.mono {v v' : Rat} {z z' : Nat} (h : RN v z) (h' : RN v' z') (hle : v ≤ v') : rv z ≤ rv z' := by
  by_cases e : v = v'
  · subst e; rw [h.2.det h'.2]; exact Rat.le_refl
  · exact h.1.mono h'.1 (by grind)
theorem RN.fin {v : Rat} {z : Nat} (h : RN v z) : FL.Fin z := h.1.fin
theorem rle {v : Rat} {z : Nat} (h : Rnd v z) (N : Int) (h1 : -(2 ^ 53 : Int) ≤ N) (h2 : N ≤ 2 ^ 53) (hv : v ≤ (N : Rat)) : rv z ≤ (N : Rat) := by
  obtain ⟨t, ft, vt⟩ := rep_int N h1 h2
  have := h.below t ft (by rw [vt]; exact hv)
  rw [vt] at this; exact this
theorem rge {v : Rat} {z : Nat} (h : Rnd v z) (N : Int) (h1 : -(2 ^ 53 : Int) ≤ N) (h2 : N ≤ 2 ^ 53) (hv : (N : Rat) ≤ v) : (N : Rat) ≤ rv z := by
  obtain ⟨t, ft, vt⟩ := rep_int N h1 h2
  have := h.above t ft (by rw [vt]; exact hv)
  rw [vt] at this; exact this
theorem rbd {v : Rat} {z : Nat} (h : Rnd v z) (N : Nat) (h2 : N ≤ 2 ^ 53) (hv : -(N : Rat) ≤ v ∧ v ≤ (N : Rat)) : -(N : Rat) ≤ rv z ∧ rv z ≤ (N : Rat) := by
  have a := rle h (N : Int) (by omega) (by omega) (by rw [Rat.intCast_natCast]; exact hv.2)
  have b := rge h (-(N : Int)) (by omega) (by omega) (by rw [Rat.intCast_neg, Rat.intCast_natCast]; exact hv.1)
  rw [Rat.intCast_natCast] at a
  rw [Rat.intCast_neg, Rat.intCast_natCast] at b
  exact ⟨b, a⟩
theorem RN.le {v : Rat} {z : Nat} (h : RN v z) (N : Int) (h1 : -(2 ^ 53 : Int) ≤ N) (h2 : N ≤ 2 ^ 53) (hv : v ≤ (N : Rat)) : rv z ≤ (N : Rat) := rle h.1 N h1 h2 hv
theorem RN.ge {v : Rat} {z : Nat} (h : RN v z) (N : Int) (h1 : -(2 ^ 53 : Int) ≤ N) (h2 : N ≤ 2 ^ 53) (hv : (N : Rat) ≤ v) : (N : Rat) ≤ rv z := rge h.1 N h1 h2 hv
theorem RN.bd {v : Rat} {z : Nat} (h : RN v z) (N : Nat) (h2 : N ≤ 2 ^ 53) (hv : -(N : Rat) ≤ v ∧ v ≤ (N : Rat)) : -(N : Rat) ≤ rv z ∧ rv z ≤ (N : Rat) := rbd h.1 N h2 hv

theorem Res.det {op : BinOp} {x y z z' : Nat} (h : Res op x y z) (h' : Res op x y z') (hs : ∃ r, floatBits op .f64 x y = some r) : z' = z := by
  obtain ⟨r, e⟩ := hs
  rcases h with h | ⟨h, -⟩
  · rcases h' with h' | ⟨h', -⟩
    · rw [h] at h'; injection h' with h'; exact h'.symm
    · rw [e] at h'; cases h'
  · rw [e] at h; cases h

def big : Rat := 1000000
theorem big_ok : big ≤ p2 1023 := by have := big_le; unfold big; grind
theorem rn_add {x y z : Nat} (h : Res .add x y z) (hx : FL.Fin x) (hy : FL.Fin y) (h1 : -big ≤ rv x + rv y) (h2 : rv x + rv y ≤ big) : RN (rv x + rv y) z ∧ ∀ z', Res .add x y z' → z' = z := by
  have hb := big_ok
  obtain ⟨r, e, hr, hn⟩ := add_rnd hx hy (by grind) (by grind)
  have e : floatBits .add .f64 x y = some r := e
  refine ⟨?_, fun z' h' => h.det h' ⟨r, e⟩⟩
  rcases h with h | ⟨h, -⟩
  · rw [e] at h; injection h with h; rw [← h]; exact ⟨hr, hn⟩
  · rw [e] at h; cases h
theorem rn_sub {x y z : Nat} (h : Res .sub x y z) (hx : FL.Fin x) (hy : FL.Fin y) (h1 : -big ≤ rv x - rv y) (h2 : rv x - rv y ≤ big) : RN (rv x - rv y) z ∧ ∀ z', Res .sub x y z' → z' = z := by
  have hb := big_ok
  obtain ⟨r, e, hr, hn⟩ := sub_rnd hx hy (by grind) (by grind)
  have e : floatBits .sub .f64 x y = some r := e
  refine ⟨?_, fun z' h' => h.det h' ⟨r, e⟩⟩
  rcases h with h | ⟨h, -⟩
  · rw [e] at h; injection h with h; rw [← h]; exact ⟨hr, hn⟩
  · rw [e] at h; cases h
theorem rn_mul {x y z : Nat} (h : Res .mul x y z) (hx : FL.Fin x) (hy : FL.Fin y) (h1 : -big ≤ rv x * rv y) (h2 : rv x * rv y ≤ big) : RN (rv x * rv y) z ∧ ∀ z', Res .mul x y z' → z' = z := by
  have hb := big_ok
  obtain ⟨r, e, hr, hn, -⟩ := mul_rnd hx hy (by grind) (by grind)
  have e : floatBits .mul .f64 x y = some r := e
  refine ⟨?_, fun z' h' => h.det h' ⟨r, e⟩⟩
  rcases h with h | ⟨h, -⟩
  · rw [e] at h; injection h with h; rw [← h]; exact ⟨hr, hn⟩
  · rw [e] at h; cases h
theorem rn_quo {x y z : Nat} (h : Res .quo x y z) (hx : FL.Fin x) (hy : FL.Fin y) (h0 : rv y ≠ 0) (h1 : -big ≤ rv x / rv y) (h2 : rv x / rv y ≤ big) : Rnd (rv x / rv y) z ∧ ∀ z', Res .quo x y z' → z' = z := by
  have hb := big_ok
  obtain ⟨r, e, hr, -⟩ := div_rnd hx hy h0 (by grind) (by grind)
  have e : floatBits .quo .f64 x y = some r := e
  refine ⟨?_, fun z' h' => h.det h' ⟨r, e⟩⟩
  rcases h with h | ⟨h, -⟩
  · rw [e] at h; injection h with h; rw [← h]; exact hr
  · rw [e] at h; cases h

theorem f16 : FL.Fin 4625196817309499392 := by unfold FL.Fin; decide
theorem v16 : rv 4625196817309499392 = 16 := by decide +kernel
theorem f116 : FL.Fin 4637863191261478912 := by unfold FL.Fin; decide
theorem v116 : rv 4637863191261478912 = 116 := by decide +kernel
theorem f500 : FL.Fin 4647503709213818880 := by unfold FL.Fin; decide
theorem v500 : rv 4647503709213818880 = 500 := by decide +kernel
theorem f200 : FL.Fin 4641240890982006784 := by unfold FL.Fin; decide
theorem v200 : rv 4641240890982006784 = 200 := by decide +kernel
theorem fkap : FL.Fin 4651156694067819558 := by unfold FL.Fin; decide
theorem vkap : 903 ≤ rv 4651156694067819558 ∧ rv 4651156694067819558 ≤ 904 := by decide +kernel
theorem feps : FL.Fin 4576259018578689238 := by unfold FL.Fin; decide
theorem veps : 8/1000 ≤ rv 4576259018578689238 ∧ rv 4576259018578689238 ≤ 9/1000 := by decide +kernel
theorem f8 : FL.Fin 4620693217682128896 := by unfold FL.Fin; decide
theorem fdx : FL.Fin 4606860822843362778 := by unfold FL.Fin; decide
theorem vdx : 1/2 ≤ rv 4606860822843362778 ∧ rv 4606860822843362778 ≤ 1 := by decide +kernel
theorem fdz : FL.Fin 4605607101106091996 := by unfold FL.Fin; decide
theorem vdz : 1/2 ≤ rv 4605607101106091996 ∧ rv 4605607101106091996 ≤ 1 := by decide +kernel
theorem fw1 : FL.Fin 4596622254156528009 := by unfold FL.Fin; decide
theorem fw2 : FL.Fin 4586329842166271086 := by unfold FL.Fin; decide
theorem fw3 : FL.Fin 4576259018578689318 := by unfold FL.Fin; decide
theorem fw4 : FL.Fin 4627448617123184677 := by unfold FL.Fin; decide
theorem fw5 : FL.Fin 4620693217682128971 := by unfold FL.Fin; decide
theorem fw6 : FL.Fin 4576259018578689324 := by unfold FL.Fin; decide
theorem w1p : 0 < rv 4596622254156528009 := by decide +kernel
theorem w2p : 0 < rv 4586329842166271086 := by decide +kernel
theorem w12 : rv 4586329842166271086 ≤ rv 4596622254156528009 * rv 4596622254156528009 := by decide +kernel
theorem w23 : rv 4576259018578689318 ≤ rv 4586329842166271086 * rv 4596622254156528009 := by decide +kernel
theorem w3e : rv 4576259018578689238 < rv 4576259018578689318 := by decide +kernel
theorem w14 : rv 4596622254156528009 * 116 ≤ rv 4627448617123184677 := by decide +kernel
theorem w45 : rv 4627448617123184677 - 16 ≤ rv 4620693217682128971 := by decide +kernel
theorem w56 : rv 4620693217682128971 / rv 4651156694067819558 ≤ rv 4576259018578689324 := by decide +kernel
theorem w6e : rv 4576259018578689324 ≤ rv 4576259018578689238 + 1/10^14 := by decide +kernel

theorem div_mono {a b k : Rat} (h : a ≤ b) (hk : 0 < k) : a / k ≤ b / k := by
  rw [Rat.div_def, Rat.div_def]
  exact Rat.mul_le_mul_of_nonneg_right h (Rat.le_of_lt (Rat.inv_pos.2 hk))
theorem div_bd {a k N : Rat} (hk : 1 ≤ k) (h : -N ≤ a ∧ a ≤ N) : -N ≤ a / k ∧ a / k ≤ N := by
  have hk0 : 0 < k := by grind
  have e : a / k * k = a := Rat.div_mul_cancel (by grind)
  generalize a / k = y at *
  have h2 : 0 ≤ N * (k - 1) := Rat.mul_nonneg (by grind) (by grind)
  constructor
  · apply Classical.byContradiction
    intro hc
    have h1 : 0 ≤ (-N - y) * (k - 1) := Rat.mul_nonneg (by grind) (by grind)
    grind
  · apply Classical.byContradiction
    intro hc
    have h1 : 0 ≤ (y - N) * (k - 1) := Rat.mul_nonneg (by grind) (by grind)
    grind

theorem div_lt {a b k : Rat} (h : a < b) (hk : 0 < k) : a / k < b / k := by
  rw [Rat.div_def, Rat.div_def]
  have := Rat.mul_pos (a := b - a) (b := k⁻¹) (by grind) (Rat.inv_pos.2 hk)
  grind
theorem quo_mono {a a' c q q' : Nat} (la : a < 2 ^ 64) (la' : a' < 2 ^ 64) (fa : FL.Fin a) (fa' : FL.Fin a') (fc : FL.Fin c) (hc : 0 < rv c) (h : Res .quo a c q) (h' : Res .quo a' c q')
    (b1 : -big ≤ rv a / rv c ∧ rv a / rv c ≤ big) (b2 : -big ≤ rv a' / rv c ∧ rv a' / rv c ≤ big) (hle : rv a ≤ rv a') : rv q ≤ rv q' := by
  obtain ⟨R, D⟩ := rn_quo h fa fc (by grind) b1.1 b1.2
  obtain ⟨R', D'⟩ := rn_quo h' fa' fc (by grind) b2.1 b2.2
  by_cases e : rv a = rv a'
  · obtain ⟨m, s | z⟩ := rv_inj fa fa' e
    · have : a = a' := by omega
      subst this
      rw [D q' h']; exact Rat.le_refl
    · have z1 := R.zero (by rw [z, Rat.div_def, Rat.zero_mul])
      have z2 := R'.zero (by rw [← e, z, Rat.div_def, Rat.zero_mul])
      rw [z1, z2]; exact Rat.le_refl
  · exact R.mono R' (div_lt (by grind) hc)

/-- A number of at most 14. -/
def Sm (g : Nat) : Prop := FL.Fin g ∧ -14 ≤ rv g ∧ rv g ≤ 14

theorem cub {g c : Nat} (hg : Sm g) (h : CubR g c) : ∃ q, RN (rv g * rv g) q ∧ RN (rv q * rv g) c ∧ 0 ≤ rv q ∧ (-2744 ≤ rv c ∧ rv c ≤ 2744) ∧ ∀ c', CubR g c' → c' = c := by
  obtain ⟨fg, g1, g2⟩ := hg
  obtain ⟨q, h1, h2⟩ := h
  have m := mul_abs (x := rv g) (d := rv g) (X := 14) (E := 14) g1 g2 g1 g2
  obtain ⟨R1, D1⟩ := rn_mul h1 fg fg (by unfold big; grind) (by unfold big; grind)
  have b1 := R1.bd 196 (by decide) (by constructor <;> grind)
  have p1 : 0 ≤ rv q := by
    have s : 0 ≤ rv g * rv g := by
      rcases (Rat.le_total : 0 ≤ rv g ∨ rv g ≤ 0) with p | p
      · exact Rat.mul_nonneg p p
      · have := Rat.mul_nonneg (a := -rv g) (b := -rv g) (by grind) (by grind); grind
    have := R1.ge 0 (by decide) (by decide) (by simpa using s)
    simpa using this
  have m2 := mul_abs (x := rv q) (d := rv g) (X := 196) (E := 14) (by grind) (by grind) g1 g2
  obtain ⟨R2, D2⟩ := rn_mul h2 R1.fin fg (by unfold big; grind) (by unfold big; grind)
  have b2 := R2.bd 2744 (by decide) (by constructor <;> grind)
  refine ⟨q, R1, R2, p1, by constructor <;> grind, ?_⟩
  rintro c' ⟨q', k1, k2⟩
  rw [D1 q' k1] at k2
  exact D2 c' k2

theorem lin {g x : Nat} (hg : Sm g) (h : LinR g x) : ∃ p q, RN (rv g * 116) p ∧ RN (rv p - 16) q ∧ (Rnd (rv q / rv 4651156694067819558) x ∧ Res .quo q 4651156694067819558 x ∧ -2000 ≤ rv q / rv 4651156694067819558 ∧ rv q / rv 4651156694067819558 ≤ 2000) ∧ (-2000 ≤ rv x ∧ rv x ≤ 2000) ∧ ∀ x', LinR g x' → x' = x := by
  obtain ⟨fg, g1, g2⟩ := hg
  obtain ⟨p, q, h1, h2, h3⟩ := h
  obtain ⟨R1, D1⟩ := rn_mul h1 fg f116 (by rw [v116]; unfold big; grind) (by rw [v116]; unfold big; grind)
  rw [v116] at R1
  have b1 := R1.bd 1624 (by decide) (by constructor <;> grind)
  obtain ⟨R2, D2⟩ := rn_sub h2 R1.fin f16 (by rw [v16]; unfold big; grind) (by rw [v16]; unfold big; grind)
  rw [v16] at R2
  have b2 := R2.bd 2000 (by decide) (by constructor <;> grind)
  have vk := vkap
  have db := div_bd (a := rv q) (k := rv 4651156694067819558) (N := 2000) (by grind) (by constructor <;> grind)
  obtain ⟨R3, D3⟩ := rn_quo h3 R2.fin fkap (by grind) (by unfold big; grind) (by unfold big; grind)
  have b3 := rbd R3 2000 (by decide) (by constructor <;> grind)
  refine ⟨p, q, R1, R2, ⟨R3, h3, db.1, db.2⟩, by constructor <;> grind, ?_⟩
  rintro x' ⟨p', q', k1, k2, k3⟩
  rw [D1 p' k1] at k2
  rw [D2 q' k2] at k3
  exact D3 x' k3

/-- One channel: of the value 'g' to the answer 'X', with the white point's share 'D'. -/
def ChR (D g X : Nat) : Prop := ∃ c x, CubR g c ∧ BrR g c x ∧ Res .mul x D X
theorem gt_dec {c : Nat} (h : FL.Fin c) : gtB c 4576259018578689238 = decide (rv 4576259018578689238 < rv c) := gt_iff h feps

theorem chan {D g X : Nat} (fD : FL.Fin D) (hD : 1/2 ≤ rv D ∧ rv D ≤ 1) (hg : Sm g) (h : ChR D g X) :
    ∃ c x, CubR g c ∧ FL.Fin c ∧ ((rv 4576259018578689238 < rv c ∧ x = c) ∨ (rv c ≤ rv 4576259018578689238 ∧ LinR g x)) ∧ FL.Fin x ∧ RN (rv x * rv D) X ∧ (-3000 ≤ rv X ∧ rv X ≤ 3000) ∧ ∀ X', ChR D g X' → X' = X := by
  obtain ⟨c, x, h1, h2, h3⟩ := h
  obtain ⟨q, R1, R2, q0, cb, CD⟩ := cub hg h1
  have fc := R2.fin
  unfold BrR at h2
  rw [gt_dec fc] at h2
  have key : ((rv 4576259018578689238 < rv c ∧ x = c) ∨ (rv c ≤ rv 4576259018578689238 ∧ LinR g x)) ∧ FL.Fin x ∧ (-2744 ≤ rv x ∧ rv x ≤ 2744) ∧ ∀ x', BrR g c x' → x' = x := by
    split at h2
    · rename_i hc
      subst h2
      refine ⟨.inl ⟨by simpa using hc, rfl⟩, fc, cb, ?_⟩
      intro x' hx
      unfold BrR at hx
      rw [gt_dec fc, if_pos hc] at hx
      exact hx
    · rename_i hc
      obtain ⟨p, q', L1, L2, ⟨L3, -⟩, xb, LD⟩ := lin hg h2
      refine ⟨.inr ⟨by have : ¬ rv 4576259018578689238 < rv c := by simpa using hc
                       grind, h2⟩, L3.fin, by grind, ?_⟩
      intro x' hx
      unfold BrR at hx
      rw [gt_dec fc, if_neg hc] at hx
      exact LD x' hx
  obtain ⟨k1, fx, xb, XD⟩ := key
  have m := mul_abs (x := rv x) (d := rv D) (X := 2744) (E := 1) xb.1 xb.2 (by grind) (by grind)
  obtain ⟨R3, D3⟩ := rn_mul h3 fx fD (by unfold big; grind) (by unfold big; grind)
  have b3 := R3.bd 3000 (by decide) (by constructor <;> grind)
  refine ⟨c, x, h1, fc, k1, fx, R3, by constructor <;> grind, ?_⟩
  rintro X' ⟨c', x', j1, j2, j3⟩
  rw [CD c' j1] at j2
  rw [XD x' j2] at j3
  exact D3 X' j3

theorem cub_pos {g c : Nat} (hg : Sm g) (h : CubR g c) (hc : 0 < rv c) : 0 < rv g := by
  obtain ⟨q, R1, R2, q0, cb, CD⟩ := cub hg h
  apply Classical.byContradiction
  intro hn
  have := Rat.mul_nonneg (a := rv q) (b := -rv g) q0 (by grind)
  have := R2.le 0 (by decide) (by decide) (by show _ ≤ (0 : Rat); grind)
  have e : ((0 : Int) : Rat) = 0 := rfl
  grind
theorem cub_mono {g g' c c' : Nat} (hg : Sm g) (hg' : Sm g') (h : CubR g c) (h' : CubR g' c') (h0 : 0 ≤ rv g) (hle : rv g ≤ rv g') : rv c ≤ rv c' := by
  obtain ⟨q, R1, R2, q0, -, -⟩ := cub hg h
  obtain ⟨q', R1', R2', q0', -, -⟩ := cub hg' h'
  have m1 := Rat.mul_nonneg (a := rv g' - rv g) (b := rv g' + rv g) (by grind) (by grind)
  have q1 := R1.mono R1' (by grind)
  have m2 := Rat.mul_nonneg (a := rv q' - rv q) (b := rv g') (by grind) (by grind)
  have m3 := Rat.mul_nonneg (a := rv q) (b := rv g' - rv g) q0 (by grind)
  exact R2.mono R2' (by grind)
theorem seam {g c : Nat} (hg : Sm g) (h : CubR g c) (hc : rv c ≤ rv 4576259018578689238) : rv g ≤ rv 4596622254156528009 := by
  obtain ⟨q, R1, R2, q0, -, -⟩ := cub hg h
  apply Classical.byContradiction
  intro hn
  have p1 := w1p
  have p2 := w2p
  have m1 := Rat.mul_nonneg (a := rv g - rv 4596622254156528009) (b := rv g + rv 4596622254156528009) (by grind) (by grind)
  have a1 := R1.1.above _ fw2 (by have := w12; grind)
  have m2 := Rat.mul_nonneg (a := rv q - rv 4586329842166271086) (b := rv g) (by grind) (by grind)
  have m3 := Rat.mul_nonneg (a := rv 4586329842166271086) (b := rv g - rv 4596622254156528009) (by grind) (by grind)
  have a2 := R2.1.above _ fw3 (by have := w23; grind)
  have := w3e
  grind
theorem lin_seam {g x : Nat} (hg : Sm g) (h : LinR g x) (hle : rv g ≤ rv 4596622254156528009) : rv x ≤ rv 4576259018578689324 := by
  obtain ⟨p, q, R1, R2, R3, -, -⟩ := lin hg h
  have a1 := R1.1.below _ fw4 (by have := w14; grind)
  have a2 := R2.1.below _ fw5 (by have := w45; grind)
  have vk := vkap
  exact R3.1.below _ fw6 (by have := w56; have := div_mono a2 (k := rv 4651156694067819558) (by grind); grind)
theorem lin_mono {g g' x x' : Nat} (hg : Sm g) (hg' : Sm g') (h : LinR g x) (h' : LinR g' x') (hle : rv g ≤ rv g') : rv x ≤ rv x' := by
  obtain ⟨p, q, R1, R2, R3, -, -⟩ := lin hg h
  obtain ⟨p', q', R1', R2', R3', -, -⟩ := lin hg' h'
  have a1 := R1.mono R1' (by grind)
  have a2 := R2.mono R2' (by grind)
  have vk := vkap
  exact quo_mono R2.1.lt R2'.1.lt R2.fin R2'.fin fkap (by grind) R3.2.1 R3'.2.1 ⟨by unfold big; grind, by unfold big; grind⟩ ⟨by unfold big; grind, by unfold big; grind⟩ a2

theorem ch_mono {D g g' X X' : Nat} (fD : FL.Fin D) (hD : 1/2 ≤ rv D ∧ rv D ≤ 1) (hg : Sm g) (hg' : Sm g') (h : ChR D g X) (h' : ChR D g' X') (hle : rv g ≤ rv g') : rv X ≤ rv X' + 1/10^13 := by
  obtain ⟨c, x, C, fc, B, fx, R, -, -⟩ := chan fD hD hg h
  obtain ⟨c', x', C', fc', B', fx', R', -, -⟩ := chan fD hD hg' h'
  have ve := veps
  have mono : rv x ≤ rv x' → rv X ≤ rv X' + 1/10^13 := by
    intro hx
    have m := Rat.mul_nonneg (a := rv x' - rv x) (b := rv D) (by grind) (by grind)
    have := R.mono R' (by grind)
    grind
  rcases B with ⟨b1, rfl⟩ | ⟨b1, L⟩
  · rcases B' with ⟨b2, rfl⟩ | ⟨b2, L'⟩
    · exact mono (cub_mono hg hg' C C' (Rat.le_of_lt (cub_pos hg C (by grind))) hle)
    · have := cub_mono hg hg' C C' (Rat.le_of_lt (cub_pos hg C (by grind))) hle
      grind
  · rcases B' with ⟨b2, rfl⟩ | ⟨b2, L'⟩
    · rcases (Rat.le_total : rv x ≤ rv x' ∨ rv x' ≤ rv x) with hx | hx
      · exact mono hx
      · have a1 := lin_seam hg L (seam hg C b1)
        have a2 := w6e
        have x1 : rv x ≤ 1 := by grind
        have x0 : 0 ≤ rv x' := by grind
        have m1 := mul_abs (x := rv x) (d := rv D) (X := 1) (E := 1) (by grind) x1 (by grind) (by grind)
        have m2 := mul_abs (x := rv x') (d := rv D) (X := 1) (E := 1) (by grind) (by grind) (by grind) (by grind)
        have e1 := R.1.err 1 (by grind) (by grind)
        have e2 := R'.1.err 1 (by grind) (by grind)
        have hu := u53_eq
        have he := eta_le
        have m3 := Rat.mul_nonneg (a := rv x - rv x') (b := 1 - rv D) (by grind) (by grind)
        rw [hu] at e1 e2
        grind
    · exact mono (lin_mono hg hg' L L' hle)
end Go.Proofs.Ytkeagmiolapgpaa.F64
