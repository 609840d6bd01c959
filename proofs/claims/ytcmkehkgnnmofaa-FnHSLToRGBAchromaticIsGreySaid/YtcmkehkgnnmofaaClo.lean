/- The closure of hsl_to_rgb. -/
import Derived.Test.YtcmkehkgnnmofaaMin3
import Derived.Deep.DeepCutAuto
namespace Go.Proofs.Ytcmkehkgnnmofaa.F64
open Go.RowKit
/-- The words that the closure makes of the hue 'h' and its number 'n'. -/
def k1 (h : Nat) : Nat := fo .quo h 4629137466983448576
def k2 (h n : Nat) : Nat := fo .add (k1 h) n
def k3 (h n : Nat) : Nat := fo .quo (k2 h n) 4622945017495814144
def k4 (h n : Nat) : Nat := fo .sub (k3 h n) (FL.floorw (k3 h n))
def kk (h n : Nat) : Nat := fo .mul (k4 h n) 4622945017495814144
def kp (h n : Nat) : Nat := fo .sub (kk h n) 4613937818241073152
def kq (h n : Nat) : Nat := fo .add (Op.negFloat .f64 (kk h n)) 4621256167635550208
structure HueOK (h n : Nat) : Prop where
  o1 : ok .quo h 4629137466983448576
  o2 : ok .add (k1 h) n
  o3 : ok .quo (k2 h n) 4622945017495814144
  f3 : FL.Fin (k3 h n)
  o4 : ok .sub (k3 h n) (FL.floorw (k3 h n))
  o5 : ok .mul (k4 h n) 4622945017495814144
  o6 : ok .sub (kk h n) 4613937818241073152
  f6 : FL.Fin (kp h n)
  o7 : ok .add (Op.negFloat .f64 (kk h n)) 4621256167635550208
  f7 : FL.Fin (kq h n)
def nl (l : Nat) : Nat := fo .add (Op.negFloat .f64 l) 4607182418800017408
/-- What is asked of lightness and saturation; 'Q' is what is known of the closure's answer. -/
structure LightOK (l s : Nat) (Q : Nat → Prop) : Prop where
  f1 : FL.Fin l
  o1 : ok .add (Op.negFloat .f64 l) 4607182418800017408
  f2 : FL.Fin (nl l)
  o2 : ∀ m, MinR l (nl l) m → ok .mul m s
  o3 : ∀ m x, MinR l (nl l) m → FL.Fin x → -1 ≤ FL.rv x → FL.rv x ≤ 1 → ok .mul x (fo .mul m s) ∧ ok .sub l (fo .mul x (fo .mul m s)) ∧ Q (fo .sub l (fo .mul x (fo .mul m s)))

def QPost (Q : Nat → Prop) (w : World) (e : Ending) (w' : World) : Prop := ∃ r, Q r ∧ e = .returned (.agg #[.float .f64 r]) ∧ Below w.heap.size w w'

/-- What is known of memory while the closure runs: 'K' is the block of its variable k, which holds 'kv'. -/
def CI (w : World) (K kv : Nat) (w' : World) : Prop :=
  Below w.heap.size w w' ∧ (w'.cell? ⟨w.heap.size, 0, none⟩).isSome = true ∧ w'.frozen? ⟨w.heap.size, 0, none⟩ = false ∧ w.heap.size < K ∧ K < w'.heap.size ∧
  w'.cell? ⟨K, 0, none⟩ = some (.float .f64 kv) ∧ w'.frozen? ⟨K, 0, none⟩ = false
theorem CI.step {w : World} {K kv : Nat} {w1 w2 : World} (h : CI w K kv w1) (hb : Below w1.heap.size w1 w2) : CI w K kv w2 := by
  obtain ⟨hbw, x0, x1, x2, x3, x4, x5⟩ := h
  have hc : ∀ b o, b < w1.heap.size → w2.cell? ⟨b, o, none⟩ = w1.cell? ⟨b, o, none⟩ := fun b o h => hb.cell (p := ⟨b, o, none⟩) h
  have hf : ∀ b o, b < w1.heap.size → w2.frozen? ⟨b, o, none⟩ = w1.frozen? ⟨b, o, none⟩ := fun b o h => hb.frozen (p := ⟨b, o, none⟩) h
  have hz := hb.size
  exact ⟨hbw.trans (hb.mono (by omega)), by rw [hc _ _ (by omega)]; exact x0, by rw [hf _ _ (by omega)]; exact x1, x2, by omega, by rw [hc _ _ (by omega)]; exact x4, by rw [hf _ _ (by omega)]; exact x5⟩
theorem CI.put {w : World} {K kv : Nat} {w1 : World} (h : CI w K kv w1) (kv' : Nat) : CI w K kv' (w1.setCell ⟨K, 0, none⟩ (.float .f64 kv')) := by
  obtain ⟨hbw, x0, x1, x2, x3, x4, x5⟩ := h
  obtain ⟨v0, h0⟩ := Option.isSome_iff_exists.1 x0
  refine ⟨hbw.setCell (by show w.heap.size ≤ K; omega) _, ?_⟩
  simp [go_sem, h0, x1, x4, x5]
  omega
theorem CI.drew {w : World} {K kv : Nat} {w1 : World} (h : CI w K kv w1) : CI w K kv w1.drew := h.step ((Below.refl _ _).drew)
theorem CI.cap {w : World} {K kv : Nat} {w1 : World} (h : CI w K kv w1) {b : Nat} {v : Value} (hb : b < w.heap.size) (hc : w.cell? ⟨b, 0, none⟩ = some v) : w1.cell? ⟨b, 0, none⟩ = some v := by
  rw [h.1.cell (p := ⟨b, 0, none⟩) hb]; exact hc

/-- A block 'M' of the closure's own, above 'K', not yet written. -/
def MI (K M : Nat) (w' : World) : Prop := w'.cell? ⟨M, 0, none⟩ = some (.float .f64 0) ∧ w'.frozen? ⟨M, 0, none⟩ = false ∧ M < w'.heap.size ∧ K < M
theorem MI.step {K M : Nat} {w1 w2 : World} (h : MI K M w1) (hb : Below w1.heap.size w1 w2) : MI K M w2 := by
  obtain ⟨x0, x1, x2, x3⟩ := h
  have hz := hb.size
  exact ⟨by rw [hb.cell (p := ⟨M, 0, none⟩) x2]; exact x0, by rw [hb.frozen (p := ⟨M, 0, none⟩) x2]; exact x1, by omega, x3⟩
theorem MI.ofAlloc {K : Nat} {W w1 : World} (hb : Below (W.alloc (.cells #[.float .f64 0] 28)).heap.size (W.alloc (.cells #[.float .f64 0] 28)) w1) (hK : K < W.heap.size) : MI K W.heap.size w1 := by
  have h0 : MI K W.heap.size (W.alloc (.cells #[.float .f64 0] 28)) := ⟨by simp [go_sem], by simp [go_sem], by simp, hK⟩
  exact h0.step hb
theorem MI.ofAllocD {K : Nat} {W w1 : World} (hb : Below ((W.alloc (.cells #[.float .f64 0] 28)).drew).heap.size (W.alloc (.cells #[.float .f64 0] 28)).drew w1) (hK : K < W.heap.size) : MI K W.heap.size w1 := by
  have h0 : MI K W.heap.size (W.alloc (.cells #[.float .f64 0] 28)) := ⟨by simp [go_sem], by simp [go_sem], by simp, hK⟩
  exact (h0.step (Below.refl _ _).drew).step hb
def AI (w : World) (B l s K kv : Nat) (w' : World) : Prop :=
  Below w.heap.size w w' ∧ w'.cell? ⟨B + 2, 0, none⟩ = some (.float .f64 l) ∧ w'.cell? ⟨B + 1, 0, none⟩ = some (.float .f64 s) ∧ w'.cell? ⟨K, 0, none⟩ = some (.float .f64 kv) ∧
  (w'.cell? ⟨w.heap.size, 0, none⟩).isSome = true ∧ w'.frozen? ⟨w.heap.size, 0, none⟩ = false ∧ w.heap.size < K ∧ K < w'.heap.size ∧ w'.frozen? ⟨K, 0, none⟩ = false ∧ B + 2 < w.heap.size
theorem AI.ofCI {w : World} {B l s K kv : Nat} {w1 : World} (h : CI w K kv w1) (hB : B + 2 < w.heap.size) (cl : w.cell? ⟨B + 2, 0, none⟩ = some (.float .f64 l)) (cs : w.cell? ⟨B + 1, 0, none⟩ = some (.float .f64 s)) : AI w B l s K kv w1 :=
  ⟨h.1, h.cap hB cl, h.cap (by omega) cs, h.2.2.2.2.2.1, h.2.1, h.2.2.1, h.2.2.2.1, h.2.2.2.2.1, h.2.2.2.2.2.2, hB⟩
theorem AI.toCI {w : World} {B l s K kv : Nat} {w1 : World} (h : AI w B l s K kv w1) : CI w K kv w1 :=
  ⟨h.1, h.2.2.2.2.1, h.2.2.2.2.2.1, h.2.2.2.2.2.2.1, h.2.2.2.2.2.2.2.1, h.2.2.2.1, h.2.2.2.2.2.2.2.2.1⟩
theorem AI.step {w : World} {B l s K kv : Nat} {w1 w2 : World} (h : AI w B l s K kv w1) (hb : Below w1.heap.size w1 w2) : AI w B l s K kv w2 := by
  have hc := h.toCI.step hb
  have h1 := h.1.size
  have h2 := h.2.2.2.2.2.2.2.2.2
  exact ⟨hc.1, by rw [hb.cell (p := ⟨B + 2, 0, none⟩) (by show B + 2 < _; omega)]; exact h.2.1, by rw [hb.cell (p := ⟨B + 1, 0, none⟩) (by show B + 1 < _; omega)]; exact h.2.2.1, hc.2.2.2.2.2.1, hc.2.1, hc.2.2.1, hc.2.2.2.1, hc.2.2.2.2.1, hc.2.2.2.2.2.2, h2⟩
theorem AI.alloc {w : World} {B l s K kv : Nat} {w1 : World} {o : Obj} (h : AI w B l s K kv w1) : AI w B l s K kv (w1.alloc o) := h.step ((Below.refl _ _).alloc (Nat.le_refl _) _)
theorem AI.set {w : World} {B l s K kv M : Nat} {w1 : World} {v : Value} (h : AI w B l s K kv w1) (hM : K < M) : AI w B l s K kv (w1.setCell ⟨M, 0, none⟩ v) := by
  obtain ⟨hbw, x0, x1, x2, x3, x4, x5, x6, x7, x8⟩ := h
  obtain ⟨v0, h0⟩ := Option.isSome_iff_exists.1 x3
  refine ⟨hbw.setCell (by show w.heap.size ≤ M; omega) _, ?_⟩
  simp [go_sem, x0, x1, x2, h0, x4, x7]
  omega

theorem AI.setN {w : World} {B l s K kv : Nat} {w1 : World} {v : Value} (h : AI w B l s K kv w1) : AI w B l s K kv (w1.setCell ⟨w.heap.size, 0, none⟩ v) := by
  obtain ⟨hbw, x0, x1, x2, x3, x4, x5, x6, x7, x8⟩ := h
  obtain ⟨v0, h0⟩ := Option.isSome_iff_exists.1 x3
  refine ⟨hbw.setCell (Nat.le_refl _) _, ?_⟩
  simp [go_sem, x0, x1, x2, h0, x4, x7]
  omega
/-- 'AI', and the block 'M' holds 'a'. -/
def BI (w : World) (B l s K kv M a : Nat) (w' : World) : Prop := w'.cell? ⟨M, 0, none⟩ = some (.float .f64 a) ∧ K < M ∧ M < w'.heap.size ∧ AI w B l s K kv w'
theorem BI.step {w : World} {B l s K kv M a : Nat} {w1 w2 : World} (h : BI w B l s K kv M a w1) (hb : Below w1.heap.size w1 w2) : BI w B l s K kv M a w2 := by
  obtain ⟨x0, x1, x2, x3⟩ := h
  have hz := hb.size
  exact ⟨by rw [hb.cell (p := ⟨M, 0, none⟩) x2]; exact x0, x1, by omega, x3.step hb⟩
theorem BI.setN {w : World} {B l s K kv M a : Nat} {w1 : World} {v : Value} (h : BI w B l s K kv M a w1) : BI w B l s K kv M a (w1.setCell ⟨w.heap.size, 0, none⟩ v) := by
  obtain ⟨x0, x1, x2, x3⟩ := h
  have h5 := x3.2.2.2.2.2.2.1
  refine ⟨?_, x1, by simpa using x2, x3.setN⟩
  simp [go_sem, x0]
theorem BI.some {w : World} {B l s K kv M a : Nat} {w1 : World} (h : BI w B l s K kv M a w1) : ∃ v, w1.cell? ⟨w.heap.size, 0, none⟩ = Option.some v := Option.isSome_iff_exists.1 h.2.2.2.2.2.2.2.1

theorem rv1 : FL.rv 4607182418800017408 = 1 := by decide +kernel
theorem fv1 : FL.Fin 4607182418800017408 := by unfold FL.Fin; decide
theorem rvm1 : FL.rv 13830554455654793216 = -1 := by decide +kernel
theorem fvm1 : FL.Fin 13830554455654793216 := by unfold FL.Fin; decide
theorem Min3R.fin {x y z r : Nat} (h : Min3R x y z r) (hx : FL.Fin x) (hy : FL.Fin y) (hz : FL.Fin z) : FL.Fin r := by
  obtain ⟨q, h1, h2⟩ := h
  exact h2.fin (h1.fin hx hy) hz
theorem mx_ok {p q m3 mx : Nat} (hp : FL.Fin p) (hq : FL.Fin q) (h3 : Min3R p q 4607182418800017408 m3) (hm : MaxR 13830554455654793216 m3 mx) : FL.Fin mx ∧ -1 ≤ FL.rv mx ∧ FL.rv mx ≤ 1 := by
  have hf := h3.fin hp hq fv1
  obtain ⟨c, -, h5⟩ := h3
  have l1 := h5.2.2
  rw [rv1] at l1
  obtain ⟨ho, h6, h7⟩ := hm
  rw [rvm1] at h6
  rcases ho with rfl | rfl
  · exact ⟨fvm1, h6, by rw [rvm1]; decide +kernel⟩
  · exact ⟨hf, h6, l1⟩

set_option maxRecDepth 100000 in
set_option maxHeartbeats 4000000 in
theorem clo (n h l s B : Nat) (Q : Nat → Prop) (w : World) (hh : HueOK h n) (hl : LightOK l s Q)
    (hB : B + 2 < w.heap.size) (ch : w.cell? ⟨B, 0, none⟩ = some (.float .f64 h)) (cl : w.cell? ⟨B + 2, 0, none⟩ = some (.float .f64 l)) (cs : w.cell? ⟨B + 1, 0, none⟩ = some (.float .f64 s)) :
    Calls Try.prog 15 #[.float .f64 n, .pointer (some ⟨B, 0, none⟩), .pointer (some ⟨B + 2, 0, none⟩), .pointer (some ⟨B + 1, 0, none⟩)] w (QPost Q w) := by
  have HH := Lib.hid hh
  have HL := Lib.hid hl
  clear hh hl
  have ch' : ∀ o, (w.alloc o).cell? ⟨B, 0, none⟩ = some (.float .f64 h) := fun o => by
    rw [((Below.refl _ w).alloc (Nat.le_refl _) o).cell (p := ⟨B, 0, none⟩) (by show B < _; omega)]; exact ch
  have CL := Lib.hid cl
  have CS := Lib.hid cs
  clear ch cl cs
  go_enter Try.func15, Try.ntmps15
  go_wp2_with fail
  refine (divConst h 4629137466983448576 (k1 h) _ (fo_some HH.out.o1)).mono ?_
  rintro e w1 ⟨rfl, hb1⟩
  go_wp2_with fail
  refine (addConst (k1 h) n (k2 h n) _ (fo_some HH.out.o2)).mono ?_
  rintro e w2 ⟨rfl, hb2⟩
  clear ch'
  have C2 : CI w w2.heap.size (k2 h n) (w2.alloc (.cells #[.float .f64 (k2 h n)] 28)) := by
    have b0 : Below w.heap.size w (w.alloc (.cells #[.float .f64 0] 28)) := (Below.refl _ w).alloc (Nat.le_refl _) _
    have hs1 := hb1.size
    have hs2 := hb2.size
    simp at hs1
    have b1 : Below (w.heap.size + 1) (w.alloc (.cells #[.float .f64 0] 28)) w2 := (hb1.mono (by simp)).trans (hb2.mono (by omega))
    have b2 : Below w.heap.size w w2 := b0.trans (b1.mono (by omega))
    have cc : w2.cell? ⟨w.heap.size, 0, none⟩ = some (.float .f64 0) := by
      rw [b1.cell (p := ⟨w.heap.size, 0, none⟩) (by show w.heap.size < _; omega)]; simp [go_sem]
    have cf : w2.frozen? ⟨w.heap.size, 0, none⟩ = false := by
      rw [b1.frozen (p := ⟨w.heap.size, 0, none⟩) (by show w.heap.size < _; omega)]; simp [go_sem]
    have b3 : Below w2.heap.size w2 (w2.alloc (.cells #[.float .f64 (k2 h n)] 28)) := (Below.refl _ w2).alloc (Nat.le_refl _) _
    refine ⟨b2.alloc (by omega) _, ?_, ?_, by omega, by simp, by simp [go_sem], by simp [go_sem]⟩
    · rw [b3.cell (p := ⟨w.heap.size, 0, none⟩) (by show w.heap.size < _; omega), cc]; rfl
    · rw [b3.frozen (p := ⟨w.heap.size, 0, none⟩) (by show w.heap.size < _; omega)]; exact cf
  go_wp2_with fail
  have HC2 := Lib.hid C2
  clear C2 hb1 hb2
  refine (divConst (k2 h n) 4622945017495814144 (k3 h n) _ (fo_some HH.out.o3)).mono ?_
  rintro e w3 ⟨rfl, hb3⟩
  have C3 := HC2.out.step hb3
  clear HC2 hb3
  generalize w2.heap.size = K at *
  have HC3 := Lib.hid (C3.put (k3 h n))
  obtain ⟨-, -, -, -, -, x4, x5⟩ := C3
  go_upto_region 3 with fail
  clear x4 x5
  generalize w3.setCell ⟨K, 0, none⟩ (.float .f64 (k3 h n)) = W3 at *
  go_cut [17] (fun _ wx => CI w K (k4 h n) wx)
  case first =>
    have C3 := HC3.out
    obtain ⟨-, -, -, -, -, y4, y5⟩ := C3
    have ST := Lib.hid (fun w1 w2 (hc : CI w K (k3 h n) w1) (hb : Below w1.heap.size w1 w2) => hc.step hb)
    have C3' := HC3.out.drew
    go_region_with (first
      | (go_at_call 13; refine (floor (k3 h n) _ HH.out.f3).mono ?_; rintro e w4 ⟨rfl, hb4⟩; have C4 := ST.out _ _ (by assumption) hb4; clear hb4; have z4 := C4.2.2.2.2.2.1; have z5 := C4.2.2.2.2.2.2)
      | (go_at_call 12; refine (sub (k3 h n) (FL.floorw (k3 h n)) (k4 h n) _ (fo_some HH.out.o4)).mono ?_; rintro e w5 ⟨rfl, hb5⟩; have C5 := ST.out _ _ (by assumption) hb5; clear hb5; have z6 := C5.2.2.2.2.2.1; have z7 := C5.2.2.2.2.2.2))
    all_goals (go_wp2_with fail; go_meet; exact CI.put (by assumption) _)
  case rest =>
    have C4 := hcut
    have q4 := C4.2.2.2.2.2.1
    have HC4 := Lib.hid C4
    clear C4 hcut HC3
    go_wp2_with fail
    refine (mulConst (k4 h n) 4622945017495814144 (kk h n) _ (fo_some HH.out.o5)).mono ?_
    rintro e w6 ⟨rfl, hb6⟩
    have C6 := HC4.out.step hb6
    clear HC4 hb6 q4
    have q6 := C6.2.2.2.2.2.1
    have q7 := C6.2.2.2.2.2.2
    have HC6 := Lib.hid (C6.put (kk h n))
    clear C6
    go_upto_region 5 with fail
    clear q6 q7
    generalize w6.setCell ⟨K, 0, none⟩ (.float .f64 (kk h n)) = W6 at *
    go_cut [7] (fun s7 wx => ∃ M m, s7 = .pointer (some ⟨M, 0, none⟩) ∧ Hid (MinR l (nl l) m) ∧ Hid (AI w B l s K (kk h n) wx) ∧ Hid (wx.cell? ⟨M, 0, none⟩ = some (.float .f64 (fo .mul m s)) ∧ K < M ∧ M < wx.heap.size))
    case first =>
      have A6 := AI.ofCI HC6.out.drew hB CL.out CS.out
      unfold AI at A6
      have ST := Lib.hid (fun w1 w2 (hc : AI w B l s K (kk h n) w1) (hb : Below w1.heap.size w1 w2) => hc.step hb)
      have KS := Lib.hid (fun w1 (hc : AI w B l s K (kk h n) w1) => hc.2.2.2.2.2.2.2.1)
      have KW := Lib.hid (show K < W6.heap.size from HC6.out.2.2.2.2.1)
      go_region_held3 (fun w' => Below w.heap.size w w' ∧ w'.cell? ⟨B + 2, 0, none⟩ = some (.float .f64 l) ∧ w'.cell? ⟨B + 1, 0, none⟩ = some (.float .f64 s) ∧ w'.cell? ⟨K, 0, none⟩ = some (.float .f64 (kk h n)) ∧ (w'.cell? ⟨w.heap.size, 0, none⟩).isSome = true ∧ w'.frozen? ⟨w.heap.size, 0, none⟩ = false ∧ w.heap.size < K ∧ K < w'.heap.size ∧ w'.frozen? ⟨K, 0, none⟩ = false ∧ B + 2 < w.heap.size)
        (first | assumption | exact AI.alloc (by assumption) | exact AI.set (by assumption) (by first | exact KS.out _ (by assumption) | (exact And.right (And.right (And.right (by assumption : MI K _ _))))))
        (first
          | (go_at_call 18; refine (neg l _).mono ?_; rintro e w7 ⟨rfl, hb⟩; have A := ST.out _ _ (by assumption) hb; (try have hm := MI.ofAlloc hb (KS.out _ (by assumption))); (try have hm := MI.ofAllocD hb KW.out); (try have hm := MI.step (by assumption) hb); clear hb; unfold AI at A)
          | (go_at_call 16; refine (addConst (Op.negFloat .f64 l) 4607182418800017408 (nl l) _ (fo_some HL.out.o1)).mono ?_; rintro e w7 ⟨rfl, hb⟩; have A := ST.out _ _ (by assumption) hb; (try have hm := MI.ofAlloc hb (KS.out _ (by assumption))); (try have hm := MI.ofAllocD hb KW.out); (try have hm := MI.step (by assumption) hb); clear hb; unfold AI at A)
          | (go_at_call 17; refine (min2 l (nl l) _ HL.out.f1 HL.out.f2).mono ?_; rintro e w7 ⟨m, hmin, rfl, hb⟩; have HM := Lib.hid hmin; clear hmin; have A := ST.out _ _ (by assumption) hb; (try have hm := MI.ofAlloc hb (KS.out _ (by assumption))); (try have hm := MI.ofAllocD hb KW.out); (try have hm := MI.step (by assumption) hb); clear hb; unfold AI at A)
          | (go_at_call 19; refine (mul m s _ _ (fo_some (HL.out.o2 m HM.out))).mono ?_; rintro e w7 ⟨rfl, hb⟩; have A := ST.out _ _ (by assumption) hb; (try have hm := MI.ofAlloc hb (KS.out _ (by assumption))); (try have hm := MI.ofAllocD hb KW.out); (try have hm := MI.step (by assumption) hb); clear hb; unfold AI at A; try unfold MI at hm))
      all_goals
        go_wp2_with fail
        go_meet
        first
          | exact ⟨_, m, rfl, HM, Lib.hid (show AI w B l s K (kk h n) _ from AI.alloc (by assumption)), Lib.hid ⟨by simp [go_sem], KS.out _ (by assumption), by simp⟩⟩
          | exact ⟨_, m, rfl, HM, Lib.hid (show AI w B l s K (kk h n) _ by assumption), Lib.hid ⟨by simp [go_sem, hm.1], hm.2.2.2, by simpa using hm.2.2.1⟩⟩
    case rest =>
      obtain ⟨M, m, rfl, HM, HA, HX⟩ := hcut
      have B0 : BI w B l s K (kk h n) M (fo .mul m s) wc.drew := by
        have : BI w B l s K (kk h n) M (fo .mul m s) wc := ⟨HX.out.1, HX.out.2.1, HX.out.2.2, HA.out⟩
        exact this.step (Below.refl _ _).drew
      unfold BI AI at B0
      have ST := Lib.hid (fun w1 w2 (hc : BI w B l s K (kk h n) M (fo .mul m s) w1) (hb : Below w1.heap.size w1 w2) => hc.step hb)
      go_upto_region 6 with fail
      go_region_held3 (fun w' => w'.cell? ⟨M, 0, none⟩ = some (.float .f64 (fo .mul m s)) ∧ K < M ∧ M < w'.heap.size ∧ Below w.heap.size w w' ∧ w'.cell? ⟨B + 2, 0, none⟩ = some (.float .f64 l) ∧ w'.cell? ⟨B + 1, 0, none⟩ = some (.float .f64 s) ∧ w'.cell? ⟨K, 0, none⟩ = some (.float .f64 (kk h n)) ∧ (w'.cell? ⟨w.heap.size, 0, none⟩).isSome = true ∧ w'.frozen? ⟨w.heap.size, 0, none⟩ = false ∧ w.heap.size < K ∧ K < w'.heap.size ∧ w'.frozen? ⟨K, 0, none⟩ = false ∧ B + 2 < w.heap.size)
        (first | assumption | exact BI.setN (by assumption))
        (first
          | (go_at_call 9; refine (newF64 _ _).mono ?_; rintro e w7 ⟨rfl, hb⟩; have A := ST.out _ _ (by assumption) hb; clear hb; unfold BI AI at A)
          | (go_at_call 22; refine (subConst (kk h n) 4613937818241073152 (kp h n) _ (fo_some HH.out.o6)).mono ?_; rintro e w7 ⟨rfl, hb⟩; have A := ST.out _ _ (by assumption) hb; clear hb; unfold BI AI at A)
          | (go_at_call 18; refine (neg (kk h n) _).mono ?_; rintro e w7 ⟨rfl, hb⟩; have A := ST.out _ _ (by assumption) hb; clear hb; unfold BI AI at A)
          | (go_at_call 16; refine (addConst (Op.negFloat .f64 (kk h n)) 4621256167635550208 (kq h n) _ (fo_some HH.out.o7)).mono ?_; rintro e w7 ⟨rfl, hb⟩; have A := ST.out _ _ (by assumption) hb; clear hb; unfold BI AI at A)
          | (go_at_call 21; refine (min3 (kp h n) (kq h n) 4607182418800017408 _ HH.out.f6 HH.out.f7 fv1).mono ?_; rintro e w7 ⟨m3, hm3, rfl, hb⟩; have H3 := Lib.hid hm3; clear hm3; have A := ST.out _ _ (by assumption) hb; clear hb; unfold BI AI at A)
          | (go_at_call 20; refine (max2 13830554455654793216 m3 _ fvm1 (H3.out.fin HH.out.f6 HH.out.f7 fv1)).mono ?_; rintro e w7 ⟨mx, hmx, rfl, hb⟩; have HO := Lib.hid (HL.out.o3 m mx HM.out (mx_ok HH.out.f6 HH.out.f7 H3.out hmx).1 (mx_ok HH.out.f6 HH.out.f7 H3.out hmx).2.1 (mx_ok HH.out.f6 HH.out.f7 H3.out hmx).2.2); clear hmx; have A := ST.out _ _ (by assumption) hb; clear hb; unfold BI AI at A)
          | (go_at_call 19; refine (mul mx (fo .mul m s) _ _ (fo_some HO.out.1)).mono ?_; rintro e w7 ⟨rfl, hb⟩; have A := ST.out _ _ (by assumption) hb; clear hb; unfold BI AI at A)
          | (go_at_call 12; refine (sub l (fo .mul mx (fo .mul m s)) _ _ (fo_some HO.out.2.1)).mono ?_; rintro e w7 ⟨rfl, hb⟩; have A := ST.out _ _ (by assumption) hb; clear hb; obtain ⟨v5, hv5⟩ := A.some; unfold BI AI at A))
      go_wp2
      refine bodyPost_ret (v := .agg #[.float .f64 (fo .sub l (fo .mul mx (fo .mul m s)))]) (by simp [results, Try.results15, go_sem, hv5]) rfl ⟨_, HO.out.2.2, rfl, ?_⟩
      exact (show BI w B l s K (kk h n) M (fo .mul m s) _ by assumption).2.2.2.1
end Go.Proofs.Ytcmkehkgnnmofaa.F64
