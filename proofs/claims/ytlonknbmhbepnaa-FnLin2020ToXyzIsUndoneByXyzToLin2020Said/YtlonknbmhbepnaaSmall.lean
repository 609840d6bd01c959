/- The verifier's small helpers on floats: what each hands back. Written by gen_small.py. -/
import Derived.Test.YtlonknbmhbepnaaRow
namespace Go.Proofs.Ytlonknbmhbepnaa.F64
open Go.RowKit Go.Proofs.Ytlonknbmhbepnaa.FL
theorem negf (b : Nat) : Op.negFloat .f64 b = b ^^^ 2 ^ 63 := rfl
/-- The word is a NaN. -/
def IsNaN (z : Nat) : Prop := 2047 * 2 ^ 52 < z % 2 ^ 63
theorem nan_read {z : Nat} (h : IsNaN z) : ∃ s t, Ieee.double.read z = .nan s t := ⟨_, _, read_nan h⟩
theorem nan_order {z y : Nat} (h : IsNaN z) : Ieee.double.order z y = none := by
  obtain ⟨s, t, e⟩ := nan_read h
  unfold Ieee.Format.order; rw [e]; rfl
theorem order_nan {z y : Nat} (h : IsNaN z) : Ieee.double.order y z = none := by
  obtain ⟨s, t, e⟩ := nan_read h
  unfold Ieee.Format.order; rw [e]; cases Ieee.double.read y <;> rfl
/-- An invalid operation draws some NaN. -/
theorem run_nan {P : Program} (op : BinOp) (hop : op = .add ∨ op = .sub ∨ op = .mul ∨ op = .quo) (t : TypeId) (x y : Nat) (w : World) (h : floatBits op .f64 x y = none) :
    ∃ z, IsNaN z ∧ (binOp op t (.float .f64 x) (.float .f64 y)).run P w = .ok (.float .f64 z) w.drew := by
  refine ⟨(Question.nanBits .f64 x y).cut (w.tape w.drawn (.nanBits .f64 x y)), ?_, ?_⟩
  · unfold IsNaN Question.cut
    generalize w.tape w.drawn (.nanBits .f64 x y) = k
    have h1 : k / 2 % (2 ^ 52 - 1) < 2 ^ 52 - 1 := Nat.mod_lt _ (by decide)
    have h2 : k % 2 < 2 := Nat.mod_lt _ (by decide)
    show 2047 * 2 ^ 52 < (k % 2 * 2 ^ 63 + 9218868437227405312 + 1 + k / 2 % (2 ^ 52 - 1)) % 2 ^ 63
    generalize k / 2 % (2 ^ 52 - 1) = r at *
    generalize k % 2 = s at *
    have : s = 0 ∨ s = 1 := by omega
    rcases this with rfl | rfl <;> omega
  · unfold floatBits at h
    rcases hop with rfl | rfl | rfl | rfl <;> simp only at h <;> simp [binOp, Op.floatArith, h, Question.forced]
theorem fin_zero : FL.Fin 0 := by unfold FL.Fin; omega
theorem rv_zero : rv 0 = 0 := rv_word_zero false
theorem order_self_fin {x : Nat} (h : FL.Fin x) : Ieee.double.order x x = some .eq := by
  rcases order_fin h h with ⟨h, _⟩ | ⟨_, h⟩ | ⟨h, _⟩
  · grind
  · exact h
  · grind
def absw (x : Nat) : Nat := if rv x < 0 then x ^^^ 2 ^ 63 else x
theorem absw_fin {x : Nat} (h : FL.Fin x) : FL.Fin (absw x) := by unfold absw; split; exact neg_fin h; exact h
theorem absw_rv {x : Nat} (h : FL.Fin x) : 0 ≤ rv (absw x) ∧ rv x ≤ rv (absw x) ∧ - rv x ≤ rv (absw x) ∧ (rv (absw x) = rv x ∨ rv (absw x) = - rv x) := by
  unfold absw; split
  · rw [neg_rv h]; grind
  · grind

theorem zzClose (a b tol : Nat) (w : World) (h : ok .sub a b) (hd : FL.Fin (fo .sub a b)) (ht : FL.Fin tol) (h1 : rv (fo .sub a b) ≤ rv tol) (h2 : - rv (fo .sub a b) ≤ rv tol) :
    Calls Try.prog 8 #[.float .f64 a, .float .f64 b, .float .f64 tol] w fun e w' => e = .returned (.bool true) ∧ w = w' := by
  have hr := fun (t : TypeId) (w : World) => run_float_arith (P := Try.prog) w .sub t .f64 a b _ (fo_some h)
  generalize fo .sub a b = d at *
  have hz := fin_zero
  have h0 := rv_zero
  by_cases hn : rv d < 0
  · have o1 : FloatKind.f64.format.order d 0 = some .lt := by
      rcases order_fin hd hz with ⟨_, e⟩ | ⟨_, _⟩ | ⟨_, _⟩
      · exact e
      · grind
      · grind
    have o2 : (FloatKind.f64.format.order (Op.negFloat .f64 d) tol == some .lt || FloatKind.f64.format.order (Op.negFloat .f64 d) tol == some .eq) = true := by
      have := le_iff (neg_fin hd) ht
      rw [neg_rv hd] at this
      rw [negf]; exact this.trans (by simpa using h2)
    clear h hd ht h1 h2 hz h0 hn
    go_enter Try.func8, Try.ntmps8
    go_wp2
    go_ret
    exact ⟨rfl, rfl⟩
  · have o1 : (FloatKind.f64.format.order d 0 == some .lt) = false := by
      have := lt_iff hd hz
      rw [h0] at this
      exact this.trans (by simpa using hn)
    have o2 : (FloatKind.f64.format.order d tol == some .lt || FloatKind.f64.format.order d tol == some .eq) = true := by
      have := le_iff hd ht
      exact this.trans (by simpa using h1)
    clear h hd ht h1 h2 hz h0 hn
    go_enter Try.func8, Try.ntmps8
    go_wp2
    go_ret
    exact ⟨rfl, rfl⟩

theorem zzAbs (x : Nat) (w : World) (hx : FL.Fin x) :
    Calls Try.prog 6 #[.float .f64 x] w fun e w' => e = .returned (.float .f64 (absw x)) ∧ w = w' := by
  have hz := fin_zero
  have h0 := rv_zero
  by_cases hn : rv x < 0
  · have o1 : FloatKind.f64.format.order x 0 = some .lt := by
      rcases order_fin hx hz with ⟨_, e⟩ | ⟨_, _⟩ | ⟨_, _⟩
      · exact e
      · grind
      · grind
    have HA := Lib.hid (show absw x = Op.negFloat .f64 x by unfold absw; rw [if_pos hn]; rfl)
    clear hx hz h0 hn
    go_enter Try.func6, Try.ntmps6
    go_wp2
    go_ret
    exact ⟨by rw [HA.out]; rfl, rfl⟩
  · have o1 : (FloatKind.f64.format.order x 0 == some .lt) = false := by
      have := lt_iff hx hz
      rw [h0] at this
      exact this.trans (by simpa using hn)
    have HA := Lib.hid (show absw x = x by unfold absw; rw [if_neg hn])
    clear hx hz h0 hn
    go_enter Try.func6, Try.ntmps6
    go_wp2
    go_ret
    exact ⟨by rw [HA.out]; rfl, rfl⟩

/-- A word that is no finite number is equal to nothing, or its difference with itself is a NaN. -/
theorem notFin_cases {x : Nat} (h : ¬ FL.Fin x) : (Ieee.double.order x x == some .eq) = false ∨ ((Ieee.double.order x x == some .eq) = true ∧ floatBits .sub .f64 x x = none) := by
  unfold FL.Fin at h
  by_cases hi : x % 2 ^ 63 = 2047 * 2 ^ 52
  · right
    have e := read_inf hi
    constructor
    · unfold Ieee.Format.order; rw [e]; simp [Ieee.Datum.order]
    · show Ieee.double.sub x x = none
      unfold Ieee.Format.sub; rw [e]; cases (x / 2 ^ 63 % 2 == 1) <;> rfl
  · left
    have hn : IsNaN x := by unfold IsNaN; omega
    rw [nan_order hn]; rfl

theorem zzFiniteNo (x : Nat) (w : World) (hx : ¬ FL.Fin x) :
    Calls Try.prog 5 #[.float .f64 x] w fun e w' => e = .returned (.bool false) ∧ Below w.heap.size w w' := by
  rcases notFin_cases hx with h | ⟨h, hn⟩
  · have o1 : (FloatKind.f64.format.order x x == some .eq) = false := h
    clear h hx
    go_enter Try.func5, Try.ntmps5
    go_wp2
    go_ret
    exact ⟨rfl, Below.refl _ _⟩
  · have o1 : (FloatKind.f64.format.order x x == some .eq) = true := h
    obtain ⟨z, hz, hr⟩ := run_nan (P := Try.prog) .sub (by simp) 22 x x w hn
    have o2 : FloatKind.f64.format.order z 0 = none := nan_order hz
    clear h hx hn hz
    go_enter Try.func5, Try.ntmps5
    go_wp2
    go_ret
    exact ⟨rfl, (Below.refl _ _).drew⟩

theorem zzFinite (x : Nat) (w : World) (hx : FL.Fin x) :
    Calls Try.prog 5 #[.float .f64 x] w fun e w' => e = .returned (.bool true) ∧ Below w.heap.size w w' := by
  have hb := big_le
  obtain ⟨o, r, -⟩ := fo_sub hx hx (by grind) (by grind)
  have hz := r.zero (by grind)
  have o1 : FloatKind.f64.format.order x x = some .eq := order_self_fin hx
  have o2 : FloatKind.f64.format.order (fo .sub x x) 0 = some .eq := by
    rcases order_fin r.fin fin_zero with ⟨h, _⟩ | ⟨_, h⟩ | ⟨h, _⟩
    · rw [hz, rv_zero] at h; grind
    · exact h
    · rw [hz, rv_zero] at h; grind
  have hr := fun (t : TypeId) (w : World) => run_float_arith (P := Try.prog) w .sub t .f64 x x _ (fo_some o)
  clear hb o r hz hx
  go_enter Try.func5, Try.ntmps5
  go_wp2
  go_ret
  exact ⟨rfl, Below.refl _ _⟩

/-- The greatest of three finite words, as the text picks it. -/
def max3w (a b c : Nat) : Nat := if rv (if rv a < rv b then b else a) < rv c then c else (if rv a < rv b then b else a)
theorem max3w_spec {a b c : Nat} (ha : FL.Fin a) (hb : FL.Fin b) (hc : FL.Fin c) : FL.Fin (max3w a b c) ∧ rv a ≤ rv (max3w a b c) ∧ rv b ≤ rv (max3w a b c) ∧ rv c ≤ rv (max3w a b c) ∧
    (rv (max3w a b c) = rv a ∨ rv (max3w a b c) = rv b ∨ rv (max3w a b c) = rv c) := by
  unfold max3w
  split <;> split <;> (first | refine ⟨hc, ?_⟩ | refine ⟨hb, ?_⟩ | refine ⟨ha, ?_⟩) <;> grind
theorem zzMax3 (a b c : Nat) (w : World) (ha : FL.Fin a) (hb : FL.Fin b) (hc : FL.Fin c) :
    Calls Try.prog 9 #[.float .f64 a, .float .f64 b, .float .f64 c] w fun e w' => e = .returned (.float .f64 (max3w a b c)) ∧ w = w' := by
  have gtB : ∀ (x y : Nat), FL.Fin x → FL.Fin y → (FloatKind.f64.format.order x y == some .gt) = decide (rv y < rv x) := fun x y hx hy => gt_iff hx hy
  by_cases h1 : rv a < rv b
  · have o1 : (FloatKind.f64.format.order b a == some .gt) = true := (gtB b a hb ha).trans (by simpa using h1)
    by_cases h2 : rv b < rv c
    · have o2 : (FloatKind.f64.format.order c b == some .gt) = true := (gtB c b hc hb).trans (by simpa using h2)
      have HM := Lib.hid (show max3w a b c = c by unfold max3w; rw [if_pos h1, if_pos h2])
      clear gtB h1 h2 ha hb hc
      go_enter Try.func9, Try.ntmps9
      go_wp2
      go_ret
      exact ⟨by rw [HM.out]; rfl, rfl⟩
    · have o2 : (FloatKind.f64.format.order c b == some .gt) = false := (gtB c b hc hb).trans (by simpa using h2)
      have HM := Lib.hid (show max3w a b c = b by unfold max3w; rw [if_pos h1, if_neg h2])
      clear gtB h1 h2 ha hb hc
      go_enter Try.func9, Try.ntmps9
      go_wp2
      go_ret
      exact ⟨by rw [HM.out]; rfl, rfl⟩
  · have o1 : (FloatKind.f64.format.order b a == some .gt) = false := (gtB b a hb ha).trans (by simpa using h1)
    by_cases h2 : rv a < rv c
    · have o2 : (FloatKind.f64.format.order c a == some .gt) = true := (gtB c a hc ha).trans (by simpa using h2)
      have HM := Lib.hid (show max3w a b c = c by unfold max3w; rw [if_neg h1, if_pos h2])
      clear gtB h1 h2 ha hb hc
      go_enter Try.func9, Try.ntmps9
      go_wp2
      go_ret
      exact ⟨by rw [HM.out]; rfl, rfl⟩
    · have o2 : (FloatKind.f64.format.order c a == some .gt) = false := (gtB c a hc ha).trans (by simpa using h2)
      have HM := Lib.hid (show max3w a b c = a by unfold max3w; rw [if_neg h1, if_neg h2])
      clear gtB h1 h2 ha hb hc
      go_enter Try.func9, Try.ntmps9
      go_wp2
      go_ret
      exact ⟨by rw [HM.out]; rfl, rfl⟩

end Go.Proofs.Ytlonknbmhbepnaa.F64
