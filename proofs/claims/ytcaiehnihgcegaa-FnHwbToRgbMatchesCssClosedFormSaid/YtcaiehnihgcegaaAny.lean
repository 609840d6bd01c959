/- The contracts of helpers.F64's methods for any operands. Written by gen_any.py. -/
import Derived.Test.YtcaiehnihgcegaaF64
import Derived.Test.YtcaiehnihgcegaaFloat
namespace Go.Proofs.Ytcaiehnihgcegaa.F64
open Go.RowKit
/-- The word is a NaN. -/
def IsNaN (z : Nat) : Prop := 2047 * 2 ^ 52 < z % 2 ^ 63
theorem nan_read {z : Nat} (h : IsNaN z) : ∃ s t, Ieee.double.read z = .nan s t := ⟨_, _, FL.read_nan h⟩
theorem nan_order {z y : Nat} (h : IsNaN z) : Ieee.double.order z y = none := by
  obtain ⟨s, t, e⟩ := nan_read h
  unfold Ieee.Format.order; rw [e]; rfl
theorem order_nan {z y : Nat} (h : IsNaN z) : Ieee.double.order y z = none := by
  obtain ⟨s, t, e⟩ := nan_read h
  unfold Ieee.Format.order; rw [e]; cases Ieee.double.read y <;> rfl
/-- The NaN that the tape gives. -/
def nz (w : World) (x y : Nat) : Nat := (Question.nanBits .f64 x y).cut (w.tape w.drawn (.nanBits .f64 x y))
theorem nz_nan (w : World) (x y : Nat) : IsNaN (nz w x y) := by
  unfold IsNaN nz Question.cut
  generalize w.tape w.drawn (.nanBits .f64 x y) = k
  have h1 : k / 2 % (2 ^ 52 - 1) < 2 ^ 52 - 1 := Nat.mod_lt _ (by decide)
  have h2 : k % 2 < 2 := Nat.mod_lt _ (by decide)
  show 2047 * 2 ^ 52 < (k % 2 * 2 ^ 63 + 9218868437227405312 + 1 + k / 2 % (2 ^ 52 - 1)) % 2 ^ 63
  generalize k / 2 % (2 ^ 52 - 1) = r at *
  generalize k % 2 = s at *
  have : s = 0 ∨ s = 1 := by omega
  rcases this with rfl | rfl <;> omega
theorem run_nz {P : Program} (op : BinOp) (hop : op = .add ∨ op = .sub ∨ op = .mul ∨ op = .quo) (x y : Nat) (h : floatBits op .f64 x y = none) (t : TypeId) (w : World) :
    (binOp op t (.float .f64 x) (.float .f64 y)).run P w = .ok (.float .f64 (nz w x y)) w.drew := by
  unfold floatBits at h
  rcases hop with rfl | rfl | rfl | rfl <;> simp only at h <;> simp [binOp, Op.floatArith, h, Question.forced, nz]
/-- What an operation may answer: its word, or some NaN where it is invalid. -/
def Res (op : BinOp) (x y z : Nat) : Prop := floatBits op .f64 x y = some z ∨ (floatBits op .f64 x y = none ∧ IsNaN z)

theorem addConstA (x y : Nat) (w : World) :
    Calls Try.prog 34 #[.agg #[.float .f64 x], .float .f64 y] w fun e w' => ∃ z, Res .add x y z ∧ e = .returned (.agg #[.float .f64 z]) ∧ Below w.heap.size w w' := by
  cases hfb : floatBits .add .f64 x y with
  | some r => exact (addConst x y r w hfb).mono fun e w' h => ⟨r, .inl hfb, h.1, h.2⟩
  | none =>
    have HN := Lib.hid hfb
    have hr := fun (t : TypeId) (w : World) => run_nz (P := Try.prog) .add (by simp) x y hfb t w
    clear hfb
    go_enter Try.func34, Try.ntmps34
    go_wp2_with fail
    clear hr
    refine (newF64 _ _).mono ?_
    rintro e w1 ⟨rfl, hb⟩
    obtain ⟨hc, hf⟩ := bcell hb
    have hz : w.heap.size + 1 < w1.heap.size := by have := hb.size; simp at this; omega
    go_wp2
    refine bodyPost_ret (v := .agg #[.float .f64 _]) (by simp [results, Try.results34, go_sem, hc]; rfl) rfl ⟨_, .inr ⟨HN.out, nz_nan _ x y⟩, rfl, ?_⟩
    exact ((((Below.refl _ _).alloc (Nat.le_refl _) _).alloc (by simp) _).drew.trans (hb.mono (by simp; omega))).setCell (by simp) _

theorem addA (x y : Nat) (w : World) :
    Calls Try.prog 36 #[.agg #[.float .f64 x], .agg #[.float .f64 y]] w fun e w' => ∃ z, Res .add x y z ∧ e = .returned (.agg #[.float .f64 z]) ∧ Below w.heap.size w w' := by
  cases hfb : floatBits .add .f64 x y with
  | some r => exact (add x y r w hfb).mono fun e w' h => ⟨r, .inl hfb, h.1, h.2⟩
  | none =>
    have HN := Lib.hid hfb
    have hr := fun (t : TypeId) (w : World) => run_nz (P := Try.prog) .add (by simp) x y hfb t w
    clear hfb
    go_enter Try.func36, Try.ntmps36
    go_wp2_with fail
    clear hr
    refine (newF64 _ _).mono ?_
    rintro e w1 ⟨rfl, hb⟩
    obtain ⟨hc, hf⟩ := bcell hb
    have hz : w.heap.size + 1 + 1 < w1.heap.size := by have := hb.size; simp at this; omega
    go_wp2
    refine bodyPost_ret (v := .agg #[.float .f64 _]) (by simp [results, Try.results36, go_sem, hc]; rfl) rfl ⟨_, .inr ⟨HN.out, nz_nan _ x y⟩, rfl, ?_⟩
    exact (((((Below.refl _ _).alloc (Nat.le_refl _) _).alloc (by simp) _).alloc (by simp; omega) _).drew.trans (hb.mono (by simp; omega))).setCell (by simp; omega) _

theorem subConstA (x y : Nat) (w : World) :
    Calls Try.prog 40 #[.agg #[.float .f64 x], .float .f64 y] w fun e w' => ∃ z, Res .sub x y z ∧ e = .returned (.agg #[.float .f64 z]) ∧ Below w.heap.size w w' := by
  cases hfb : floatBits .sub .f64 x y with
  | some r => exact (subConst x y r w hfb).mono fun e w' h => ⟨r, .inl hfb, h.1, h.2⟩
  | none =>
    have HN := Lib.hid hfb
    have hr := fun (t : TypeId) (w : World) => run_nz (P := Try.prog) .sub (by simp) x y hfb t w
    clear hfb
    go_enter Try.func40, Try.ntmps40
    go_wp2_with fail
    clear hr
    refine (newF64 _ _).mono ?_
    rintro e w1 ⟨rfl, hb⟩
    obtain ⟨hc, hf⟩ := bcell hb
    have hz : w.heap.size + 1 < w1.heap.size := by have := hb.size; simp at this; omega
    go_wp2
    refine bodyPost_ret (v := .agg #[.float .f64 _]) (by simp [results, Try.results40, go_sem, hc]; rfl) rfl ⟨_, .inr ⟨HN.out, nz_nan _ x y⟩, rfl, ?_⟩
    exact ((((Below.refl _ _).alloc (Nat.le_refl _) _).alloc (by simp) _).drew.trans (hb.mono (by simp; omega))).setCell (by simp) _

theorem subA (x y : Nat) (w : World) :
    Calls Try.prog 37 #[.agg #[.float .f64 x], .agg #[.float .f64 y]] w fun e w' => ∃ z, Res .sub x y z ∧ e = .returned (.agg #[.float .f64 z]) ∧ Below w.heap.size w w' := by
  cases hfb : floatBits .sub .f64 x y with
  | some r => exact (sub x y r w hfb).mono fun e w' h => ⟨r, .inl hfb, h.1, h.2⟩
  | none =>
    have HN := Lib.hid hfb
    have hr := fun (t : TypeId) (w : World) => run_nz (P := Try.prog) .sub (by simp) x y hfb t w
    clear hfb
    go_enter Try.func37, Try.ntmps37
    go_wp2_with fail
    clear hr
    refine (newF64 _ _).mono ?_
    rintro e w1 ⟨rfl, hb⟩
    obtain ⟨hc, hf⟩ := bcell hb
    have hz : w.heap.size + 1 + 1 < w1.heap.size := by have := hb.size; simp at this; omega
    go_wp2
    refine bodyPost_ret (v := .agg #[.float .f64 _]) (by simp [results, Try.results37, go_sem, hc]; rfl) rfl ⟨_, .inr ⟨HN.out, nz_nan _ x y⟩, rfl, ?_⟩
    exact (((((Below.refl _ _).alloc (Nat.le_refl _) _).alloc (by simp) _).alloc (by simp; omega) _).drew.trans (hb.mono (by simp; omega))).setCell (by simp; omega) _

theorem mulConstA (x y : Nat) (w : World) :
    Calls Try.prog 38 #[.agg #[.float .f64 x], .float .f64 y] w fun e w' => ∃ z, Res .mul x y z ∧ e = .returned (.agg #[.float .f64 z]) ∧ Below w.heap.size w w' := by
  cases hfb : floatBits .mul .f64 x y with
  | some r => exact (mulConst x y r w hfb).mono fun e w' h => ⟨r, .inl hfb, h.1, h.2⟩
  | none =>
    have HN := Lib.hid hfb
    have hr := fun (t : TypeId) (w : World) => run_nz (P := Try.prog) .mul (by simp) x y hfb t w
    clear hfb
    go_enter Try.func38, Try.ntmps38
    go_wp2_with fail
    clear hr
    refine (newF64 _ _).mono ?_
    rintro e w1 ⟨rfl, hb⟩
    obtain ⟨hc, hf⟩ := bcell hb
    have hz : w.heap.size + 1 < w1.heap.size := by have := hb.size; simp at this; omega
    go_wp2
    refine bodyPost_ret (v := .agg #[.float .f64 _]) (by simp [results, Try.results38, go_sem, hc]; rfl) rfl ⟨_, .inr ⟨HN.out, nz_nan _ x y⟩, rfl, ?_⟩
    exact ((((Below.refl _ _).alloc (Nat.le_refl _) _).alloc (by simp) _).drew.trans (hb.mono (by simp; omega))).setCell (by simp) _

theorem mulA (x y : Nat) (w : World) :
    Calls Try.prog 35 #[.agg #[.float .f64 x], .agg #[.float .f64 y]] w fun e w' => ∃ z, Res .mul x y z ∧ e = .returned (.agg #[.float .f64 z]) ∧ Below w.heap.size w w' := by
  cases hfb : floatBits .mul .f64 x y with
  | some r => exact (mul x y r w hfb).mono fun e w' h => ⟨r, .inl hfb, h.1, h.2⟩
  | none =>
    have HN := Lib.hid hfb
    have hr := fun (t : TypeId) (w : World) => run_nz (P := Try.prog) .mul (by simp) x y hfb t w
    clear hfb
    go_enter Try.func35, Try.ntmps35
    go_wp2_with fail
    clear hr
    refine (newF64 _ _).mono ?_
    rintro e w1 ⟨rfl, hb⟩
    obtain ⟨hc, hf⟩ := bcell hb
    have hz : w.heap.size + 1 + 1 < w1.heap.size := by have := hb.size; simp at this; omega
    go_wp2
    refine bodyPost_ret (v := .agg #[.float .f64 _]) (by simp [results, Try.results35, go_sem, hc]; rfl) rfl ⟨_, .inr ⟨HN.out, nz_nan _ x y⟩, rfl, ?_⟩
    exact (((((Below.refl _ _).alloc (Nat.le_refl _) _).alloc (by simp) _).alloc (by simp; omega) _).drew.trans (hb.mono (by simp; omega))).setCell (by simp; omega) _

theorem divConstA (x y : Nat) (w : World) :
    Calls Try.prog 33 #[.agg #[.float .f64 x], .float .f64 y] w fun e w' => ∃ z, Res .quo x y z ∧ e = .returned (.agg #[.float .f64 z]) ∧ Below w.heap.size w w' := by
  cases hfb : floatBits .quo .f64 x y with
  | some r => exact (divConst x y r w hfb).mono fun e w' h => ⟨r, .inl hfb, h.1, h.2⟩
  | none =>
    have HN := Lib.hid hfb
    have hr := fun (t : TypeId) (w : World) => run_nz (P := Try.prog) .quo (by simp) x y hfb t w
    clear hfb
    go_enter Try.func33, Try.ntmps33
    go_wp2_with fail
    clear hr
    refine (newF64 _ _).mono ?_
    rintro e w1 ⟨rfl, hb⟩
    obtain ⟨hc, hf⟩ := bcell hb
    have hz : w.heap.size + 1 < w1.heap.size := by have := hb.size; simp at this; omega
    go_wp2
    refine bodyPost_ret (v := .agg #[.float .f64 _]) (by simp [results, Try.results33, go_sem, hc]; rfl) rfl ⟨_, .inr ⟨HN.out, nz_nan _ x y⟩, rfl, ?_⟩
    exact ((((Below.refl _ _).alloc (Nat.le_refl _) _).alloc (by simp) _).drew.trans (hb.mono (by simp; omega))).setCell (by simp) _

theorem divA (x y : Nat) (w : World) :
    Calls Try.prog 41 #[.agg #[.float .f64 x], .agg #[.float .f64 y]] w fun e w' => ∃ z, Res .quo x y z ∧ e = .returned (.agg #[.float .f64 z]) ∧ Below w.heap.size w w' := by
  cases hfb : floatBits .quo .f64 x y with
  | some r => exact (div x y r w hfb).mono fun e w' h => ⟨r, .inl hfb, h.1, h.2⟩
  | none =>
    have HN := Lib.hid hfb
    have hr := fun (t : TypeId) (w : World) => run_nz (P := Try.prog) .quo (by simp) x y hfb t w
    clear hfb
    go_enter Try.func41, Try.ntmps41
    go_wp2_with fail
    clear hr
    refine (newF64 _ _).mono ?_
    rintro e w1 ⟨rfl, hb⟩
    obtain ⟨hc, hf⟩ := bcell hb
    have hz : w.heap.size + 1 + 1 < w1.heap.size := by have := hb.size; simp at this; omega
    go_wp2
    refine bodyPost_ret (v := .agg #[.float .f64 _]) (by simp [results, Try.results41, go_sem, hc]; rfl) rfl ⟨_, .inr ⟨HN.out, nz_nan _ x y⟩, rfl, ?_⟩
    exact (((((Below.refl _ _).alloc (Nat.le_refl _) _).alloc (by simp) _).alloc (by simp; omega) _).drew.trans (hb.mono (by simp; omega))).setCell (by simp; omega) _

/-- What math.Floor may answer. -/
def FloorRes (x z : Nat) : Prop := (FL.Fin x ∧ z = FL.floorw x) ∨ (¬ FL.Fin x ∧ floatBits .sub .f64 x z = none)
theorem sub_nan {x z : Nat} (h : IsNaN x) : floatBits .sub .f64 x z = none := by
  obtain ⟨s, t, e⟩ := nan_read h
  show Ieee.double.sub x z = none
  unfold Ieee.Format.sub; rw [e]; cases Ieee.double.read z <;> rfl
theorem archFloor_not {x : Nat} (hx : ¬ FL.Fin x) (w : World) : ∃ z w', (callFunc 47 #[.float .f64 x]).run Try.prog w = .ok (.value (.float .f64 z)) w' ∧ FloorRes x z ∧ (w' = w ∨ w' = w.drew) := by
  have hx' := hx
  unfold FL.Fin at hx
  by_cases hi : x % 2 ^ 63 = 2047 * 2 ^ 52
  · have e := FL.read_inf hi
    have hd : FloatKind.f64.decode x = .infinity (x / 2 ^ 63 % 2 == 1) := e
    refine ⟨FloatKind.f64.encode ((Ieee.Datum.infinity (x / 2 ^ 63 % 2 == 1)).integral .down), w, ?_, .inr ⟨hx', ?_⟩, .inl rfl⟩
    · have hi : Extern.MathFloor.toIntegral "math.archFloor" .down #[.float .f64 x] = pure (.float .f64 (FloatKind.f64.encode ((Ieee.Datum.infinity (x / 2 ^ 63 % 2 == 1)).integral .down))) := by
        conv =>
          lhs
          whnf
        rw [hd]
      rw [archFloor, hi]
      simp
    · show Ieee.double.sub x _ = none
      unfold Ieee.Format.sub; rw [e]
      cases (x / 2 ^ 63 % 2 == 1)
      · decide +kernel
      · decide +kernel
  · have hn : IsNaN x := by unfold IsNaN; omega
    have e := FL.read_nan hn
    have hd : FloatKind.f64.decode x = .nan (x / 2 ^ 63 % 2 == 1) (x % 2 ^ 63 - 2047 * 2 ^ 52) := e
    by_cases hq : FloatKind.f64.format.quiet (x % 2 ^ 63 - 2047 * 2 ^ 52) = x % 2 ^ 63 - 2047 * 2 ^ 52
    · refine ⟨x, w, ?_, .inr ⟨hx', sub_nan hn⟩, .inl rfl⟩
      have hi : Extern.MathFloor.toIntegral "math.archFloor" .down #[.float .f64 x] = pure (.float .f64 x) := by
        conv =>
          lhs
          whnf
        rw [hd]
        simp [hq]
      rw [archFloor, hi]
      simp
    · have hi : Extern.MathFloor.toIntegral "math.archFloor" .down #[.float .f64 x] = (do
          let kept ← choose (.extern "math.Floor,Ceil,Trunc,RoundToEven.signallingNaN kept" 2)
          pure (.float .f64 (if kept == 1 then x else FloatKind.f64.encode (.nan (x / 2 ^ 63 % 2 == 1) (FloatKind.f64.format.quiet (x % 2 ^ 63 - 2047 * 2 ^ 52)))))) := by
        conv =>
          lhs
          whnf
        rw [hd]
        simp [hq]
      have hz : ∃ z, (callFunc 47 #[.float .f64 x]).run Try.prog w = .ok (.value (.float .f64 z)) w.drew := by
        rw [archFloor, hi]
        simp [Question.forced]
      obtain ⟨z, hz⟩ := hz
      exact ⟨z, w.drew, hz, .inr ⟨hx', sub_nan hn⟩, .inr rfl⟩
theorem mathFloorA (x : Nat) (w : World) : Calls Try.prog 46 #[.float .f64 x] w fun e w' => ∃ z, FloorRes x z ∧ e = .returned (.float .f64 z) ∧ Below w.heap.size w w' := by
  by_cases hx : FL.Fin x
  · exact (mathFloor x w hx).mono fun e w' h => ⟨_, .inl ⟨hx, rfl⟩, h.1, by rw [← h.2]; exact Below.refl _ _⟩
  · obtain ⟨z, w1, h, hz, hw⟩ := archFloor_not hx w
    have HB := Lib.hid (show Below w.heap.size w w1 by rcases hw with rfl | rfl; exact Below.refl _ _; exact (Below.refl _ _).drew)
    have HZ := Lib.hid hz
    clear hx hz hw
    go_enter Try.func46, Try.ntmps46
    go_wp2_with fail
    go_ret
    exact ⟨z, HZ.out, rfl, HB.out⟩
theorem floorA (x : Nat) (w : World) :
    Calls Try.prog 44 #[.agg #[.float .f64 x]] w fun e w' => ∃ z, FloorRes x z ∧ e = .returned (.agg #[.float .f64 z]) ∧ Below w.heap.size w w' := by
  go_enter Try.func44, Try.ntmps44
  go_wp2_with fail
  refine (mathFloorA x _).mono ?_
  rintro e w2 ⟨z, hz, rfl, hb2⟩
  have HZ := Lib.hid hz
  clear hz
  go_wp2_with fail
  refine (newF64 _ _).mono ?_
  rintro e w1 ⟨rfl, hb1⟩
  have hb := hb2.trans (hb1.mono hb2.size)
  clear hb1 hb2
  obtain ⟨hc, hf⟩ := bcell hb
  have hs : w.heap.size + 1 < w1.heap.size := by have := hb.size; simp at this; omega
  go_wp2
  refine bodyPost_ret (v := .agg #[.float .f64 z]) (by simp [results, Try.results44, go_sem, hc]) rfl ⟨z, HZ.out, rfl, ?_⟩
  exact ((((Below.refl _ _).alloc (Nat.le_refl _) _).alloc (by simp) _).trans (hb.mono (by simp; omega))).setCell (by simp) _

end Go.Proofs.Ytcaiehnihgcegaa.F64
