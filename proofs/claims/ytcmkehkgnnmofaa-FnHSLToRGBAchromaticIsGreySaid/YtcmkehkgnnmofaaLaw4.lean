/- FnHSLToRGBAchromaticIsGrey returns true. -/
import Derived.Test.YtcmkehkgnnmofaaLaw3
namespace Go.Proofs.Ytcmkehkgnnmofaa.F64
open Go.RowKit Go.Proofs.Ytcmkehkgnnmofaa.FL
def Q13 (v : Rat) (r : Nat) : Prop := FL.Fin r ∧ rv r = v

/-- A percentage of any finite word. -/
theorem pct_any {x : Nat} (hx : FL.Fin x) : ok .quo x 4636737291354636288 ∧ Rnd (rv x / 100) (pct x) ∧ -(p2 1023 / 20) ≤ rv (pct x) ∧ rv (pct x) ≤ p2 1023 / 20 := by
  have hb := big_le
  have hu := u53_eq
  have hep := eta_pos
  have hel := eta_le
  have hl := fin_le hx
  rw [p2_1024] at hl
  obtain ⟨o1, r1⟩ := quo_ok (M := p2 1023 / 30) hx f100 c100 (by decide +kernel) (by grind) (by grind) (by grind)
  have e1 := r1.err (p2 1023 / 30) (by grind) (by grind)
  rw [hu] at e1
  refine ⟨o1, r1, ?_, ?_⟩ <;> (unfold pct; grind)

theorem light13 {l s : Nat} (hl : FL.Fin l) (l1 : -(p2 1023 / 20) ≤ rv l) (l2 : rv l ≤ p2 1023 / 20) (hs : FL.Fin s)
    (hz : rv s = 0 ∨ rv l = 0 ∨ rv l = 1) : LightOK l s (Q13 (rv l)) := by
  have hb := big_le
  have nf := neg_fin hl
  have nv := neg_rv hl
  obtain ⟨o1, r1, -⟩ := fo_add nf fv1 (by rw [rv1, nv]; grind) (by rw [rv1, nv]; grind)
  rw [rv1, nv] at r1
  have hzero : ∀ m, MinR l (nl l) m → rv m * rv s = 0 := by
    intro m hm
    rcases hz with h | h | h
    · rw [h]; grind
    · have e1 : rv (nl l) = 1 := r1.exact fv1 (by rw [rv1]; grind) |>.trans (by grind)
      have : rv m = 0 := by
        rcases hm.1 with rfl | rfl
        · exact h
        · have := hm.2.1; grind
      rw [this]; grind
    · have e1 : rv (nl l) = 0 := r1.zero (by grind)
      have : rv m = 0 := by
        rcases hm.1 with rfl | rfl
        · have := hm.2.2; grind
        · exact e1
      rw [this]; grind
  have prod : ∀ m, MinR l (nl l) m → ok .mul m s ∧ FL.Fin (fo .mul m s) ∧ rv (fo .mul m s) = 0 := by
    intro m hm
    have h0 := hzero m hm
    obtain ⟨o2, r2, -, -⟩ := fo_mul (hm.fin hl r1.fin) hs (by rw [h0]; grind) (by rw [h0]; grind)
    exact ⟨o2, r2.fin, r2.zero h0⟩
  refine ⟨hl, o1, r1.fin, fun m hm => (prod m hm).1, ?_⟩
  intro m x hm hx x1 x2
  obtain ⟨-, af, a0⟩ := prod m hm
  generalize fo .mul m s = a at *
  have h0 : rv x * rv a = 0 := by rw [a0]; grind
  obtain ⟨o3, r3, -, -⟩ := fo_mul hx af (by rw [h0]; grind) (by rw [h0]; grind)
  have y0 := r3.zero h0
  generalize fo .mul x a = y at *
  obtain ⟨o4, r4, -⟩ := fo_sub hl r3.fin (by grind) (by grind)
  have e4 := r4.exact hl (by grind)
  exact ⟨o3, o4, r4.fin, by rw [e4]; grind⟩

theorem hsl13 {h s l : Nat} (hh : FL.Fin h) (hs : FL.Fin s) (hl : FL.Fin l) (hz : rv s = 0 ∨ rv l = 0 ∨ rv l = 100) : HslOK h s l (Q13 (rv (pct l))) := by
  obtain ⟨a1, a2, a3, a4, a5, a6, a7⟩ := hue_all hh
  obtain ⟨os, rs, -, -⟩ := pct_any hs
  obtain ⟨ol, rl, l1, l2⟩ := pct_any hl
  refine ⟨a1, a2, a3, a4, os, ol, a5, a6, a7, light13 rl.fin l1 l2 rs.fin ?_⟩
  rcases hz with h | h | h
  · exact Or.inl (rs.zero (by rw [h]; decide +kernel))
  · exact Or.inr (Or.inl (rl.zero (by rw [h]; decide +kernel)))
  · right; right
    have e := rl.exact fv1 (by rw [rv1, h]; decide +kernel)
    rw [e, h]; decide +kernel

theorem oeq {u v : Nat} (hu : FL.Fin u) (hv : FL.Fin v) (e : rv u = rv v) : FloatKind.f64.format.order u v = some .eq := by
  rcases order_fin hu hv with ⟨h, _⟩ | ⟨_, h⟩ | ⟨h, _⟩
  · grind
  · exact h
  · grind
theorem one_case {s l : Nat} (h : (FloatKind.f64.format.order s 0 == some .eq) = true ∨ (FloatKind.f64.format.order l 0 == some .eq) = true ∨ (FloatKind.f64.format.order l 4636737291354636288 == some .eq) = true) (hs : FL.Fin s) (hl : FL.Fin l) :
    rv s = 0 ∨ rv l = 0 ∨ rv l = 100 := by
  rcases h with h | h | h
  · left
    have : (Ieee.double.order s 0 == some .eq) = true := h
    rw [eq_iff hs f0, c0] at this
    exact of_decide_eq_true this
  · right; left
    have : (Ieee.double.order l 0 == some .eq) = true := h
    rw [eq_iff hl f0, c0] at this
    exact of_decide_eq_true this
  · right; right
    have : (Ieee.double.order l 4636737291354636288 == some .eq) = true := h
    rw [eq_iff hl f100, c100] at this
    exact of_decide_eq_true this

set_option maxRecDepth 100000 in
set_option maxHeartbeats 2000000 in
theorem main1 (h s l : Nat) (w : World) (hh : FL.Fin h) (hs : FL.Fin s) (hl : FL.Fin l) (e1 : (FloatKind.f64.format.order s 0 == some .eq) = true) :
    Calls Try.prog 4 #[.float .f64 h, .float .f64 s, .float .f64 l] w fun e w' => e = .returned (.bool true) ∧ Below w.heap.size w w' := by
  have HO := Lib.hid (hsl13 hh hs hl (one_case (Or.inl e1) hs hl))
  have HP := Lib.hid (show FL.Fin (pct l) from (pct_any hl).2.1.fin)
  have HF := Lib.hid hh
  have HS := Lib.hid hs
  have HL := Lib.hid hl
  clear hh hs hl
  go_enter Try.func4, Try.ntmps4
  go_wp2_with fail
  refine (zzFinite h _ HF.out).mono ?_
  rintro e w1 ⟨rfl, hb1⟩
  go_wp2_with fail
  refine (zzFinite s _ HS.out).mono ?_
  rintro e w2 ⟨rfl, hb2⟩
  go_wp2_with fail
  refine (zzFinite l _ HL.out).mono ?_
  rintro e w3 ⟨rfl, hb3⟩
  have r9 := fun (ty : TypeId) (w : World) => run_float_arith (P := Try.prog) w .quo ty .f64 l 4636737291354636288 _ (fo_some HO.out.o5)
  go_wp2_with fail
  refine (zz h s l _ _ HO.out).mono ?_
  rintro e w4 ⟨r0, r1, r2, q0, q1, q2, rfl, hb4⟩
  have o0 : FloatKind.f64.format.order r0 (fo .quo l 4636737291354636288) = some .eq := oeq q0.1 HP.out q0.2
  have o1 : FloatKind.f64.format.order r1 (fo .quo l 4636737291354636288) = some .eq := oeq q1.1 HP.out q1.2
  have o2 : FloatKind.f64.format.order r2 (fo .quo l 4636737291354636288) = some .eq := oeq q2.1 HP.out q2.2
  clear q0 q1 q2
  go_wp2_with fail
  go_ret
  exact ⟨rfl, ((hb1.trans (hb2.mono hb1.size)).trans (hb3.mono (Nat.le_trans hb1.size hb2.size))).trans (hb4.mono (Nat.le_trans (Nat.le_trans hb1.size hb2.size) hb3.size))⟩

set_option maxRecDepth 100000 in
set_option maxHeartbeats 2000000 in
theorem main2 (h s l : Nat) (w : World) (hh : FL.Fin h) (hs : FL.Fin s) (hl : FL.Fin l) (e1 : (FloatKind.f64.format.order s 0 == some .eq) = false) (e2 : (FloatKind.f64.format.order l 0 == some .eq) = true) :
    Calls Try.prog 4 #[.float .f64 h, .float .f64 s, .float .f64 l] w fun e w' => e = .returned (.bool true) ∧ Below w.heap.size w w' := by
  have HO := Lib.hid (hsl13 hh hs hl (one_case (Or.inr (Or.inl e2)) hs hl))
  have HP := Lib.hid (show FL.Fin (pct l) from (pct_any hl).2.1.fin)
  have HF := Lib.hid hh
  have HS := Lib.hid hs
  have HL := Lib.hid hl
  clear hh hs hl
  go_enter Try.func4, Try.ntmps4
  go_wp2_with fail
  refine (zzFinite h _ HF.out).mono ?_
  rintro e w1 ⟨rfl, hb1⟩
  go_wp2_with fail
  refine (zzFinite s _ HS.out).mono ?_
  rintro e w2 ⟨rfl, hb2⟩
  go_wp2_with fail
  refine (zzFinite l _ HL.out).mono ?_
  rintro e w3 ⟨rfl, hb3⟩
  have r9 := fun (ty : TypeId) (w : World) => run_float_arith (P := Try.prog) w .quo ty .f64 l 4636737291354636288 _ (fo_some HO.out.o5)
  go_wp2_with fail
  refine (zz h s l _ _ HO.out).mono ?_
  rintro e w4 ⟨r0, r1, r2, q0, q1, q2, rfl, hb4⟩
  have o0 : FloatKind.f64.format.order r0 (fo .quo l 4636737291354636288) = some .eq := oeq q0.1 HP.out q0.2
  have o1 : FloatKind.f64.format.order r1 (fo .quo l 4636737291354636288) = some .eq := oeq q1.1 HP.out q1.2
  have o2 : FloatKind.f64.format.order r2 (fo .quo l 4636737291354636288) = some .eq := oeq q2.1 HP.out q2.2
  clear q0 q1 q2
  go_wp2_with fail
  go_ret
  exact ⟨rfl, ((hb1.trans (hb2.mono hb1.size)).trans (hb3.mono (Nat.le_trans hb1.size hb2.size))).trans (hb4.mono (Nat.le_trans (Nat.le_trans hb1.size hb2.size) hb3.size))⟩

set_option maxRecDepth 100000 in
set_option maxHeartbeats 2000000 in
theorem main3 (h s l : Nat) (w : World) (hh : FL.Fin h) (hs : FL.Fin s) (hl : FL.Fin l) (e1 : (FloatKind.f64.format.order s 0 == some .eq) = false) (e2 : (FloatKind.f64.format.order l 0 == some .eq) = false) (e3 : (FloatKind.f64.format.order l 4636737291354636288 == some .eq) = true) :
    Calls Try.prog 4 #[.float .f64 h, .float .f64 s, .float .f64 l] w fun e w' => e = .returned (.bool true) ∧ Below w.heap.size w w' := by
  have HO := Lib.hid (hsl13 hh hs hl (one_case (Or.inr (Or.inr e3)) hs hl))
  have HP := Lib.hid (show FL.Fin (pct l) from (pct_any hl).2.1.fin)
  have HF := Lib.hid hh
  have HS := Lib.hid hs
  have HL := Lib.hid hl
  clear hh hs hl
  go_enter Try.func4, Try.ntmps4
  go_wp2_with fail
  refine (zzFinite h _ HF.out).mono ?_
  rintro e w1 ⟨rfl, hb1⟩
  go_wp2_with fail
  refine (zzFinite s _ HS.out).mono ?_
  rintro e w2 ⟨rfl, hb2⟩
  go_wp2_with fail
  refine (zzFinite l _ HL.out).mono ?_
  rintro e w3 ⟨rfl, hb3⟩
  have r9 := fun (ty : TypeId) (w : World) => run_float_arith (P := Try.prog) w .quo ty .f64 l 4636737291354636288 _ (fo_some HO.out.o5)
  go_wp2_with fail
  refine (zz h s l _ _ HO.out).mono ?_
  rintro e w4 ⟨r0, r1, r2, q0, q1, q2, rfl, hb4⟩
  have o0 : FloatKind.f64.format.order r0 (fo .quo l 4636737291354636288) = some .eq := oeq q0.1 HP.out q0.2
  have o1 : FloatKind.f64.format.order r1 (fo .quo l 4636737291354636288) = some .eq := oeq q1.1 HP.out q1.2
  have o2 : FloatKind.f64.format.order r2 (fo .quo l 4636737291354636288) = some .eq := oeq q2.1 HP.out q2.2
  clear q0 q1 q2
  go_wp2_with fail
  go_ret
  exact ⟨rfl, ((hb1.trans (hb2.mono hb1.size)).trans (hb3.mono (Nat.le_trans hb1.size hb2.size))).trans (hb4.mono (Nat.le_trans (Nat.le_trans hb1.size hb2.size) hb3.size))⟩

set_option maxRecDepth 100000 in
set_option maxHeartbeats 2000000 in
theorem law4 (h s l : Nat) (w : World) (_h0 : (Lit.float .f64 h).wf = true) (_h1 : (Lit.float .f64 s).wf = true) (_h2 : (Lit.float .f64 l).wf = true) :
    Calls Try.prog 4 #[.float .f64 h, .float .f64 s, .float .f64 l] w fun e w' => e = .returned (.bool true) ∧ Below w.heap.size w w' := by
  by_cases hh : FL.Fin h
  rotate_left
  · have HF := Lib.hid hh
    clear hh
    go_enter Try.func4, Try.ntmps4
    go_wp2_with fail
    refine (zzFiniteNo h _ HF.out).mono ?_
    rintro e w1 ⟨rfl, hb1⟩
    go_wp2_with fail
    go_ret
    exact ⟨rfl, hb1⟩
  by_cases hs : FL.Fin s
  rotate_left
  · have HF := Lib.hid hh
    have HS := Lib.hid hs
    clear hh hs
    go_enter Try.func4, Try.ntmps4
    go_wp2_with fail
    refine (zzFinite h _ HF.out).mono ?_
    rintro e w1 ⟨rfl, hb1⟩
    go_wp2_with fail
    refine (zzFiniteNo s _ HS.out).mono ?_
    rintro e w2 ⟨rfl, hb2⟩
    go_wp2_with fail
    go_ret
    exact ⟨rfl, hb1.trans (hb2.mono hb1.size)⟩
  by_cases hl : FL.Fin l
  rotate_left
  · have HF := Lib.hid hh
    have HS := Lib.hid hs
    have HL := Lib.hid hl
    clear hh hs hl
    go_enter Try.func4, Try.ntmps4
    go_wp2_with fail
    refine (zzFinite h _ HF.out).mono ?_
    rintro e w1 ⟨rfl, hb1⟩
    go_wp2_with fail
    refine (zzFinite s _ HS.out).mono ?_
    rintro e w2 ⟨rfl, hb2⟩
    go_wp2_with fail
    refine (zzFiniteNo l _ HL.out).mono ?_
    rintro e w3 ⟨rfl, hb3⟩
    go_wp2_with fail
    go_ret
    exact ⟨rfl, (hb1.trans (hb2.mono hb1.size)).trans (hb3.mono (Nat.le_trans hb1.size hb2.size))⟩
  cases e1 : (FloatKind.f64.format.order s 0 == some .eq)
  · cases e2 : (FloatKind.f64.format.order l 0 == some .eq)
    · cases e3 : (FloatKind.f64.format.order l 4636737291354636288 == some .eq)
      · have HF := Lib.hid hh
        have HS := Lib.hid hs
        have HL := Lib.hid hl
        clear hh hs hl
        go_enter Try.func4, Try.ntmps4
        go_wp2_with fail
        refine (zzFinite h _ HF.out).mono ?_
        rintro e w1 ⟨rfl, hb1⟩
        go_wp2_with fail
        refine (zzFinite s _ HS.out).mono ?_
        rintro e w2 ⟨rfl, hb2⟩
        go_wp2_with fail
        refine (zzFinite l _ HL.out).mono ?_
        rintro e w3 ⟨rfl, hb3⟩
        go_wp2_with fail
        go_ret
        exact ⟨rfl, (hb1.trans (hb2.mono hb1.size)).trans (hb3.mono (Nat.le_trans hb1.size hb2.size))⟩
      · exact main3 h s l w hh hs hl e1 e2 e3
    · exact main2 h s l w hh hs hl e1 e2
  · exact main1 h s l w hh hs hl e1
end Go.Proofs.Ytcmkehkgnnmofaa.F64
