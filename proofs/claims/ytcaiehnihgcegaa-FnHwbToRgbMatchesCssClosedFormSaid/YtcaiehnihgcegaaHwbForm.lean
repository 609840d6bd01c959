/- The closed form of CSS, computed: near its curve. And both curves together. Plain Lean. -/
import Derived.Test.YtcaiehnihgcegaaHwbPlain
namespace Go.Proofs.Ytcaiehnihgcegaa.F64
open Go.Proofs.Ytcaiehnihgcegaa.FL
def gtB (x y : Nat) : Bool := FloatKind.f64.format.order x y == some .gt
theorem gtB_iff {x y : Nat} (hx : FL.Fin x) (hy : FL.Fin y) : gtB x y = decide (rv y < rv x) := gt_iff hx hy
/-- 'float64(int64(q))'. -/
def TruncR (q f : Nat) : Prop := FL.Fin f ∧ ∃ N : Int, rv f = (N : Rat) ∧ ((0 ≤ rv q ∧ (N : Rat) ≤ rv q ∧ rv q < (N : Rat) + 1) ∨ (rv q < 0 ∧ rv q ≤ (N : Rat) ∧ (N : Rat) - 1 < rv q))
def Mod12R (x k : Nat) : Prop := ∃ q f0 f p, Res .quo x 4622945017495814144 q ∧ TruncR q f0 ∧ (if gtB f0 q then Res .sub f0 4607182418800017408 f else f = f0) ∧ Res .mul 4622945017495814144 f p ∧ Res .sub x p k
def minF (a b : Nat) : Nat := if ltB a b then a else b
def maxF (a b : Nat) : Nat := if gtB a b then a else b
def ChanR (n h l a c : Nat) : Prop := ∃ t1 t2 k a1 a2 p, Res .quo h 4629137466983448576 t1 ∧ Res .add n t1 t2 ∧ Mod12R t2 k ∧ Res .sub k 4613937818241073152 a1 ∧ Res .sub 4621256167635550208 k a2 ∧
  Res .mul a (maxF 13830554455654793216 (minF (minF a1 a2) 4607182418800017408)) p ∧ Res .sub l p c

theorem f12 : FL.Fin 4622945017495814144 := by unfold FL.Fin; decide
theorem v12 : rv 4622945017495814144 = 12 := by decide +kernel
theorem f9 : FL.Fin 4621256167635550208 := by unfold FL.Fin; decide
theorem v9 : rv 4621256167635550208 = 9 := by decide +kernel
theorem f30 : FL.Fin 4629137466983448576 := by unfold FL.Fin; decide
theorem v30 : rv 4629137466983448576 = 30 := by decide +kernel
theorem fm1 : FL.Fin 13830554455654793216 := by unfold FL.Fin; decide
theorem vm1 : rv 13830554455654793216 = -1 := by decide +kernel

theorem mod12P {x k : Nat} (fx : FL.Fin x) (h1 : -400 ≤ rv x) (h2 : rv x ≤ 400) (h : Mod12R x k) :
    ∃ m : Int, FL.Fin k ∧ -(500 * ee) ≤ rv x - 12 * (m : Rat) ∧ rv x - 12 * (m : Rat) ≤ 12 + 500 * ee ∧ (rv x - 12 * (m : Rat)) - 14 * ee ≤ rv k ∧ rv k ≤ (rv x - 12 * (m : Rat)) + 14 * ee := by
  have hbig := big_le
  have hE := ee_pos
  have hE2 := ee_le
  obtain ⟨q, f0, f, p, q1, ⟨ff0, N, vN, hN⟩, q3, q4, q5⟩ := h
  have ed : rv x / rv 4622945017495814144 = rv x * (1 / 12) := by rw [v12]; grind
  have R1 := res_quo q1 fx f12 (by rw [v12]; decide) (by rw [ed]; grind) (by rw [ed]; grind)
  rw [ed] at R1
  have n1 := near R1 35 (by grind) (by grind) (by grind)
  have F : ∃ m : Int, FL.Fin f ∧ rv f = (m : Rat) ∧ (m : Rat) ≤ rv q ∧ rv q ≤ (m : Rat) + 1 ∧ -100 ≤ m ∧ m ≤ 100 := by
    rw [gtB_iff ff0 R1.fin] at q3
    have nb : ∀ M : Int, (M : Rat) ≤ 50 → -50 ≤ (M : Rat) → -100 ≤ M ∧ M ≤ 100 := by
      intro M a b
      have a' : (M : Rat) ≤ ((50 : Int) : Rat) := a
      have b' : ((-50 : Int) : Rat) ≤ (M : Rat) := b
      have := Rat.intCast_le_intCast.1 a'
      have := Rat.intCast_le_intCast.1 b'
      omega
    split at q3
    · rename_i hc
      have hc : rv q < rv f0 := by simpa using hc
      have R := res_sub q3 ff0 f1 (by rw [v1]; grind) (by rw [v1]; grind)
      rw [v1, vN] at R
      have e : (((N - 1 : Int)) : Rat) = (N : Rat) - 1 := by rw [Rat.intCast_sub]; rfl
      have hb := nb (N - 1) (by rw [e]; grind) (by rw [e]; grind)
      obtain ⟨t, ft, vt⟩ := rep_int (N - 1) (by omega) (by omega)
      have ev := R.exact ft (by rw [vt, e])
      exact ⟨N - 1, R.fin, by rw [ev, e], by rw [e]; grind, by rw [e]; grind, hb.1, hb.2⟩
    · rename_i hc
      have hc : ¬ rv q < rv f0 := by simpa using hc
      subst q3
      have hb := nb N (by grind) (by grind)
      exact ⟨N, ff0, vN, by grind, by grind, hb.1, hb.2⟩
  obtain ⟨m, ff, vf, m1, m2, b1, b2⟩ := F
  have R2 := res_mul q4 f12 ff (by rw [v12, vf]; grind) (by rw [v12, vf]; grind)
  rw [v12, vf] at R2
  obtain ⟨t, ft, vt⟩ := rep_int (12 * m) (by omega) (by omega)
  have e12 : ((12 * m : Int) : Rat) = 12 * (m : Rat) := by rw [Rat.intCast_mul]; rfl
  have vp := R2.exact ft (by rw [vt, e12])
  have R3 := res_sub q5 fx R2.fin (by rw [vp]; grind) (by rw [vp]; grind)
  rw [vp] at R3
  have n3 := near R3 13 (by grind) (by grind) (by grind)
  exact ⟨m, R3.fin, by grind, by grind, by grind, by grind⟩

theorem minF_spec {a b : Nat} (ha : FL.Fin a) (hb : FL.Fin b) : FL.Fin (minF a b) ∧ ((rv (minF a b) = rv a ∧ rv a ≤ rv b) ∨ (rv (minF a b) = rv b ∧ rv b ≤ rv a)) := by
  unfold minF
  rw [ltB_iff ha hb]
  split
  · rename_i h; have h : rv a < rv b := by simpa using h
    exact ⟨ha, .inl ⟨rfl, by grind⟩⟩
  · rename_i h; have h : ¬ rv a < rv b := by simpa using h
    exact ⟨hb, .inr ⟨rfl, by grind⟩⟩
theorem maxF_spec {a b : Nat} (ha : FL.Fin a) (hb : FL.Fin b) : FL.Fin (maxF a b) ∧ ((rv (maxF a b) = rv a ∧ rv b ≤ rv a) ∨ (rv (maxF a b) = rv b ∧ rv a ≤ rv b)) := by
  unfold maxF
  rw [gtB_iff ha hb]
  split
  · rename_i h; have h : rv b < rv a := by simpa using h
    exact ⟨ha, .inl ⟨rfl, by grind⟩⟩
  · rename_i h; have h : ¬ rv b < rv a := by simpa using h
    exact ⟨hb, .inr ⟨rfl, by grind⟩⟩

/-- The closed form's answer: near its curve. -/
def Form (H12 : Rat) (c : Nat) : Prop := ∃ m : Int, FL.Fin c ∧ -(2000 * ee) ≤ H12 - 12 * (m : Rat) ∧ H12 - 12 * (m : Rat) ≤ 12 + 2000 * ee ∧
  -(2000 * ee) ≤ rv c - gf (H12 - 12 * (m : Rat)) ∧ rv c - gf (H12 - 12 * (m : Rat)) ≤ 2000 * ee

theorem chanP {n h c : Nat} {N : Rat} (fn : FL.Fin n) (vn : rv n = N) (N0 : 0 ≤ N) (N1 : N ≤ 8) (fh : FL.Fin h) (h1 : -10000 ≤ rv h) (h2 : rv h ≤ 10000) (hc : ChanR n h 4602678819172646912 4602678819172646912 c) :
    Form (N + rv h * (1/30)) c := by
  have hbig := big_le
  have hE := ee_pos
  have hE2 := ee_le
  obtain ⟨t1, t2, k, a1, a2, p, q1, q2, q3, q4, q5, q6, q7⟩ := hc
  have ed : rv h / rv 4629137466983448576 = rv h * (1 / 30) := by rw [v30]; grind
  have R1 := res_quo q1 fh f30 (by rw [v30]; decide) (by rw [ed]; grind) (by rw [ed]; grind)
  rw [ed] at R1
  have n1 := near R1 340 (by grind) (by grind) (by grind)
  have R2 := res_add q2 fn R1.fin (by rw [vn]; grind) (by rw [vn]; grind)
  rw [vn] at R2
  have n2 := near R2 350 (by grind) (by grind) (by grind)
  obtain ⟨m, fk, b1, b2, k1, k2⟩ := mod12P R2.fin (by grind) (by grind) q3
  have R4 := res_sub q4 fk f3 (by rw [v3]; grind) (by rw [v3]; grind)
  rw [v3] at R4
  have n4 := near R4 13 (by grind) (by grind) (by grind)
  have R5 := res_sub q5 f9 fk (by rw [v9]; grind) (by rw [v9]; grind)
  rw [v9] at R5
  have n5 := near R5 13 (by grind) (by grind) (by grind)
  obtain ⟨g1, c1⟩ := minF_spec R4.fin R5.fin
  obtain ⟨g2, c2⟩ := minF_spec g1 f1
  obtain ⟨g3, c3⟩ := maxF_spec fm1 g2
  rw [v1] at c2
  rw [vm1] at c3
  generalize rv (minF a1 a2) = x1 at *
  generalize rv (minF (minF a1 a2) 4607182418800017408) = x2 at *
  have vb : -1 ≤ rv (maxF 13830554455654793216 (minF (minF a1 a2) 4607182418800017408)) ∧ rv (maxF 13830554455654793216 (minF (minF a1 a2) 4607182418800017408)) ≤ 1 := by grind
  have R6 := res_mul q6 fhalf g3 (by rw [vhalf]; grind) (by rw [vhalf]; grind)
  rw [vhalf] at R6
  have n6 := near R6 1 (by grind) (by grind) (by grind)
  have R7 := res_sub q7 fhalf R6.fin (by rw [vhalf]; grind) (by rw [vhalf]; grind)
  rw [vhalf] at R7
  have n7 := near R7 2 (by grind) (by grind) (by grind)
  have kk : (N + rv h * (1/30) - 12 * (m : Rat)) - 710 * ee ≤ rv k ∧ rv k ≤ (N + rv h * (1/30) - 12 * (m : Rat)) + 710 * ee := by constructor <;> grind
  refine ⟨m, R7.fin, by grind, by grind, ?_⟩
  generalize rv (maxF 13830554455654793216 (minF (minF a1 a2) 4607182418800017408)) = x3 at *
  generalize N + rv h * (1/30) - 12 * (m : Rat) = ks at *
  have A1 : ks - 3 - 730 * ee ≤ rv a1 ∧ rv a1 ≤ ks - 3 + 730 * ee := by constructor <;> grind
  have A2 : 9 - ks - 730 * ee ≤ rv a2 ∧ rv a2 ≤ 9 - ks + 730 * ee := by constructor <;> grind
  have C : 1/2 - x3 / 2 - 10 * ee ≤ rv c ∧ rv c ≤ 1/2 - x3 / 2 + 10 * ee := by constructor <;> grind
  clear n1 n2 n4 n5 n6 n7 kk k1 k2 R1 R2 R4 R5 R6 R7 vb b1 b2 hbig ed
  generalize rv a1 = y1 at *
  generalize rv a2 = y2 at *
  generalize rv c = cc at *
  unfold gf
  rcases c1 with ⟨e1, c1⟩ | ⟨e1, c1⟩ <;> rcases c2 with ⟨e2, c2⟩ | ⟨e2, c2⟩ <;> rcases c3 with ⟨e3, c3⟩ | ⟨e3, c3⟩ <;> split <;> (try split) <;> (try split) <;> (try split) <;> constructor <;> grind

/-- The two answers before white and black are laid in. -/
theorem both {H : Rat} {o N : Rat} {r c : Nat} {j : Int} (hp : Pure H o r) (hf : Form (N + 12 * H) c) (e : 12 * o = N + 4 + 12 * (j : Rat)) : FL.Fin r ∧ FL.Fin c ∧
    (-(6000 * ee) ≤ rv r - rv c ∧ rv r - rv c ≤ 6000 * ee) ∧ -1/10 ≤ rv r ∧ rv r ≤ 11/10 := by
  have hE := ee_pos
  have hE2 := ee_le
  obtain ⟨m, y0, y1, fr, e1, e2⟩ := hp
  obtain ⟨m', fc, k0, k1, d1, d2⟩ := hf
  have hI : ((m' + j - m : Int) : Rat) = (m' : Rat) + (j : Rat) - (m : Rat) := by rw [Rat.intCast_sub, Rat.intCast_add]
  have L := gf_cl (y := 6 * (H + o - (m : Rat))) (k := N + 12 * H - 12 * (m' : Rat)) (D := 2000 * ee) (i := m' + j - m) (by grind) (by grind) (by rw [hI]; grind) (by grind) (by grind) (by grind) (by grind)
  have B := cl_bd (6 * (H + o - (m : Rat)))
  refine ⟨fr, fc, ⟨by grind, by grind⟩, by grind, by grind⟩

/-- White and black laid in: the program's way and the law's. -/
theorem laidIn {w b s s1 d d1 r c p1 p2' q1 q2 : Nat} (fw : FL.Fin w) (fb : FL.Fin b) (w0 : 0 ≤ rv w) (w1 : rv w ≤ 1) (b0 : 0 ≤ rv b) (b1 : rv b ≤ 1)
    (hs : Res .add w b s) (hd : Res .add (Op.negFloat .f64 s) 4607182418800017408 d)
    (hs1 : Res .sub 4607182418800017408 w s1) (hd1 : Res .sub s1 b d1)
    (fr : FL.Fin r) (fc : FL.Fin c) (rc : -(6000 * ee) ≤ rv r - rv c ∧ rv r - rv c ≤ 6000 * ee) (r0 : -1/10 ≤ rv r) (r1 : rv r ≤ 11/10)
    (hp : Res .mul d r p1) (hq : Res .add p1 w q1) (hp' : Res .mul c d1 p2') (hq' : Res .add p2' w q2) :
    FL.Fin q1 ∧ FL.Fin q2 ∧ -(1/100000000000) ≤ rv q1 - rv q2 ∧ rv q1 - rv q2 ≤ 1/100000000000 ∧ -10 ≤ rv q1 ∧ rv q1 ≤ 10 := by
  have hbig := big_le
  have hE := ee_pos
  have hE2 := ee_le
  have R1 := res_add hs fw fb (by grind) (by grind)
  have n1 := near R1 2 (by grind) (by grind) (by grind)
  have e : Op.negFloat .f64 s = s ^^^ 2 ^ 63 := rfl
  rw [e] at hd
  have R2 := res_add hd (neg_fin R1.fin) f1 (by rw [neg_rv R1.fin, v1]; grind) (by rw [neg_rv R1.fin, v1]; grind)
  rw [neg_rv R1.fin, v1] at R2
  have n2 := near R2 2 (by grind) (by grind) (by grind)
  have R3 := res_sub hs1 f1 fw (by rw [v1]; grind) (by rw [v1]; grind)
  rw [v1] at R3
  have n3 := near R3 1 (by grind) (by grind) (by grind)
  have R4 := res_sub hd1 R3.fin fb (by grind) (by grind)
  have n4 := near R4 2 (by grind) (by grind) (by grind)
  have m1 := mul_abs (x := rv d) (d := rv r) (X := 2) (E := 2) (by grind) (by grind) (by grind) (by grind)
  have m2 := mul_abs (x := rv c) (d := rv d1) (X := 2) (E := 2) (by grind) (by grind) (by grind) (by grind)
  have m3 := mul_abs (x := rv d) (d := rv r - rv c) (X := 2) (E := 6000 * ee) (by grind) (by grind) (by grind) (by grind)
  have m4 := mul_abs (x := rv c) (d := rv d - rv d1) (X := 2) (E := 10 * ee) (by grind) (by grind) (by grind) (by grind)
  have R5 := res_mul hp R2.fin fr (by grind) (by grind)
  have n5 := near R5 4 (by grind) (by grind) (by grind)
  have R6 := res_mul hp' fc R4.fin (by grind) (by grind)
  have n6 := near R6 4 (by grind) (by grind) (by grind)
  have R7 := res_add hq R5.fin fw (by grind) (by grind)
  have n7 := near R7 6 (by grind) (by grind) (by grind)
  have R8 := res_add hq' R6.fin fw (by grind) (by grind)
  have n8 := near R8 6 (by grind) (by grind) (by grind)
  exact ⟨R7.fin, R8.fin, by grind, by grind, by grind, by grind⟩
end Go.Proofs.Ytcaiehnihgcegaa.F64
