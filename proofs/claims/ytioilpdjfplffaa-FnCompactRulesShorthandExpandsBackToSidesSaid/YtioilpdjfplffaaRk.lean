/- Law 3: plain facts. Written by gen_boxk.py. -/
import Derived.Test.YtioilpdjfplffaaRh
namespace Go.Proofs.Ytioilpdjfplffaa.ZT
open Go.RowKit Go.Proofs.Ytioilpdjfplffaa.TB
set_option linter.unusedVariables false
set_option linter.unusedSimpArgs false
/-- Whether one of the first t sides names the rule of side s. -/
def dupB (R : Nat → Nat) (s : Nat) : Nat → Bool
  | 0 => false
  | t + 1 => dupB R s t || (R t == R s)
structure St where
  h : Bool
  r : Bool
  m : Int
def st3 (R : Nat → Nat) (L : Nat → Int) : Nat → St
  | 0 => ⟨false, false, 0⟩
  | s + 1 => if dupB R s s then ⟨(st3 R L s).h, true, (st3 R L s).m⟩ else if (!(st3 R L s).h) = true ∨ L (R s) < (st3 R L s).m then ⟨true, (st3 R L s).r, L (R s)⟩ else st3 R L s
def mFin (R : Nat → Nat) (L : Nat → Int) : Int := if (st3 R L 4).r = true ∧ 0 < (st3 R L 4).m then 0 else (st3 R L 4).m
set_option maxHeartbeats 4000000 in
theorem mFin_ml (R : Nat → Nat) (L : Nat → Int) : mFin R L = ml L R 4 := by
  have e0 : ml L R 1 = L (R 0) := rfl
  have s1 : st3 R L 1 = ⟨true, false, L (R 0)⟩ := by simp [st3, dupB]
  have l1 : lk L R 1 (R 1) = if R 1 = R 0 then 0 else L (R 1) := rfl
  have l2 : lk L R 2 (R 2) = if R 2 = R 1 then 0 else if R 2 = R 0 then 0 else L (R 2) := rfl
  have l3 : lk L R 3 (R 3) = if R 3 = R 2 then 0 else if R 3 = R 1 then 0 else if R 3 = R 0 then 0 else L (R 3) := rfl
  have m2 : ml L R 2 = if lk L R 1 (R 1) < ml L R 1 then lk L R 1 (R 1) else ml L R 1 := by rw [ml]; simp
  have m3 : ml L R 3 = if lk L R 2 (R 2) < ml L R 2 then lk L R 2 (R 2) else ml L R 2 := by rw [ml]; simp
  have m4 : ml L R 4 = if lk L R 3 (R 3) < ml L R 3 then lk L R 3 (R 3) else ml L R 3 := by rw [ml]; simp
  have s2 : st3 R L 2 = if R 0 = R 1 then ⟨true, true, L (R 0)⟩ else if L (R 1) < L (R 0) then ⟨true, false, L (R 1)⟩ else ⟨true, false, L (R 0)⟩ := by
    rw [st3, s1]; simp [dupB]
  have d2 : dupB R 2 2 = ((R 0 == R 2) || (R 1 == R 2)) := by simp [dupB]
  have d3 : dupB R 3 3 = ((R 0 == R 3) || (R 1 == R 3) || (R 2 == R 3)) := by simp [dupB]
  unfold mFin
  rw [m4, m3, m2, e0, l1, l2, l3]
  rw [st3, d3, st3, d2, s2]
  generalize R 0 = a
  generalize R 1 = b
  generalize R 2 = c
  generalize R 3 = e
  clear s1 s2 d2 d3 m2 m3 m4 l1 l2 l3 e0
  grind
/-- The classes decide. -/
def firesB (kk av : Bool) (KK : Nat → Int) : Bool := kk && (av && (decide (0 < KK 0) && ((KK 1 == KK 0) && ((KK 2 == KK 0) && (KK 3 == KK 0)))))
theorem cls_in (c : Int) (t : Bool) : cls c t = 0 ∨ cls c t = 1 ∨ cls c t = 2 ∨ cls c t = 3 := by unfold cls; repeat' split
                                                                                                  all_goals omega
theorem kd_ne (c : Int) : (kd c == 0) = false := by unfold kd; repeat' split
                                                    all_goals rfl
theorem safe_cls (a b : Int) (ha : a = 0 ∨ a = 1 ∨ a = 2 ∨ a = 3) (hb : b = 0 ∨ b = 1 ∨ b = 2 ∨ b = 3) : safe (sun a) (sst a) (sun b) (sst b) = ((a == b) && decide (0 < b)) := by
  rcases ha with rfl | rfl | rfl | rfl <;> rcases hb with rfl | rfl | rfl | rfl <;> decide +kernel
theorem fires_eq {n : Nat} {SS : Nat → Sd} {RR : Nat → Nat} {CC KK : Nat → Int} {av kk : Bool} (h : PR n 4 SS RR CC KK av) {key : Int} (hk : key = if kk = true then 189 else 0) : fires key SS = firesB kk av KK := by
  obtain ⟨h1, h2⟩ := h
  cases av with
  | false =>
    obtain ⟨i, hi, hz⟩ := h2 rfl
    rcases fourI hi with rfl | rfl | rfl | rfl <;> simp [fires, firesB, hz]
  | true =>
    have full : ∀ i, i < 4 → FullS i (SS i) (RR i) (CC i) (KK i) := fun i hi => by
      rcases (h1 i hi).2 with ⟨-, h⟩ | h
      · cases h
      · exact h
    obtain ⟨-, -, ⟨t0, e0⟩, s0⟩ := full 0 (by omega)
    obtain ⟨-, -, ⟨t1, e1⟩, s1⟩ := full 1 (by omega)
    obtain ⟨-, -, ⟨t2, e2⟩, s2⟩ := full 2 (by omega)
    obtain ⟨-, -, ⟨t3, e3⟩, s3⟩ := full 3 (by omega)
    have r0 : KK 0 = 0 ∨ KK 0 = 1 ∨ KK 0 = 2 ∨ KK 0 = 3 := e0 ▸ cls_in _ _
    have r1 : KK 1 = 0 ∨ KK 1 = 1 ∨ KK 1 = 2 ∨ KK 1 = 3 := e1 ▸ cls_in _ _
    have r2 : KK 2 = 0 ∨ KK 2 = 1 ∨ KK 2 = 2 ∨ KK 2 = 3 := e2 ▸ cls_in _ _
    have r3 : KK 3 = 0 ∨ KK 3 = 1 ∨ KK 3 = 2 ∨ KK 3 = 3 := e3 ▸ cls_in _ _
    unfold fires firesB
    rw [s0, s1, s2, s3]
    simp only [kd_ne, safe_cls _ _ r1 r0, safe_cls _ _ r2 r0, safe_cls _ _ r3 r0]
    cases kk with
    | false => simp [hk]
    | true =>
      rw [hk]
      cases decide (0 < KK 0) <;> cases (KK 1 == KK 0) <;> cases (KK 2 == KK 0) <;> cases (KK 3 == KK 0) <;> rfl
theorem fires_full {n : Nat} {SS : Nat → Sd} {RR : Nat → Nat} {CC KK : Nat → Int} {av kk : Bool} (h : PR n 4 SS RR CC KK av) (hf : firesB kk av KK = true) : kk = true ∧ ∀ i, i < 4 → FullS i (SS i) (RR i) (CC i) (KK i) := by
  cases av with
  | false => cases kk <;> cases hf
  | true =>
    refine ⟨?_, fun i hi => ?_⟩
    · cases kk with
      | false => cases hf
      | true => rfl
    · rcases (h.1 i hi).2 with ⟨-, h⟩ | h
      · cases h
      · exact h
theorem eqT_cc (a b : Int) (ha : 0 ≤ a ∧ a ≤ 6) (hb : 0 ≤ b ∧ b ≤ 6) : eqT (kd a) (kd b) (tx a) (tx b) = (a == b) := by
  obtain ⟨a1, a2⟩ := ha
  obtain ⟨b1, b2⟩ := hb
  rcases (by omega : a = 0 ∨ a = 1 ∨ a = 2 ∨ a = 3 ∨ a = 4 ∨ a = 5 ∨ a = 6) with rfl | rfl | rfl | rfl | rfl | rfl | rfl <;>
    rcases (by omega : b = 0 ∨ b = 1 ∨ b = 2 ∨ b = 3 ∨ b = 4 ∨ b = 5 ∨ b = 6) with rfl | rfl | rfl | rfl | rfl | rfl | rfl <;> decide +kernel
/-- The shorthand's length. -/
theorem cm_mc (q : Nat → Int) (hq : ∀ i, i < 4 → 0 ≤ q i ∧ q i ≤ 6) : cm (fun i => kd (q i)) (fun i => tx (q i)) = mc q := by
  unfold cm mc xpd
  simp only [eqT_cc _ _ (hq 3 (by omega)) (hq 1 (by omega)), eqT_cc _ _ (hq 2 (by omega)) (hq 0 (by omega)), eqT_cc _ _ (hq 1 (by omega)) (hq 0 (by omega))]
  simp only [show ¬ (1 < 1) by omega, show ¬ (2 < 1) by omega, show ¬ (3 < 1) by omega, show (1 < 2) by omega, show ¬ (2 < 2) by omega, show ¬ (3 < 2) by omega, show (1 < 3) by omega, show (2 < 3) by omega, show ¬ (3 < 3) by omega, if_true, if_false]
  generalize q 0 = a
  generalize q 1 = b
  generalize q 2 = c
  generalize q 3 = e
  clear hq
  grind
end Go.Proofs.Ytioilpdjfplffaa.ZT
