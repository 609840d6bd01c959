/- hueToRgb, for any operands. -/
import Derived.Test.YtcaiehnihgcegaaLerp
namespace Go.Proofs.Ytcaiehnihgcegaa.F64
open Go.RowKit
/-- What the hue times six may be. -/
def SixR (x h : Nat) : Prop := ∃ z s, FloorRes x z ∧ Res .sub x z s ∧ Res .mul s 4618441417868443648 h
def ltB (x y : Nat) : Bool := FloatKind.f64.format.order x y == some .lt
/-- What hueToRgb may answer of it. -/
def TailR (a b h r : Nat) : Prop :=
  if ltB h 4607182418800017408 then LerpR a b h r
  else if ltB h 4613937818241073152 then r = b
  else if ltB h 4616189618054758400 then ∃ q, Res .add (Op.negFloat .f64 h) 4616189618054758400 q ∧ LerpR a b q r
  else r = a
def HueR (a b x r : Nat) : Prop := ∃ h, SixR x h ∧ TailR a b h r

def UI (w : World) (a b c : Nat) (w' : World) : Prop :=
  Below w.heap.size w w' ∧ w'.cell? ⟨w.heap.size, 0, none⟩ = some (.float .f64 a) ∧ w'.cell? ⟨w.heap.size + 1, 0, none⟩ = some (.float .f64 b) ∧ w'.cell? ⟨w.heap.size + 1 + 1, 0, none⟩ = some (.float .f64 c) ∧
  w'.frozen? ⟨w.heap.size + 1 + 1, 0, none⟩ = false ∧ w'.cell? ⟨w.heap.size + 1 + 1 + 1, 0, none⟩ = some (.float .f64 0) ∧ w'.frozen? ⟨w.heap.size + 1 + 1 + 1, 0, none⟩ = false ∧ w.heap.size + 1 + 1 + 1 < w'.heap.size
theorem UI.step {w : World} {a b c : Nat} {w1 w2 : World} (h : UI w a b c w1) (hb : Below w1.heap.size w1 w2) : UI w a b c w2 := by
  obtain ⟨x0, x1, x2, x3, x4, x5, x6, x7⟩ := h
  have hc : ∀ b o, b < w1.heap.size → w2.cell? ⟨b, o, none⟩ = w1.cell? ⟨b, o, none⟩ := fun b o h => hb.cell (p := ⟨b, o, none⟩) h
  have hf : ∀ b o, b < w1.heap.size → w2.frozen? ⟨b, o, none⟩ = w1.frozen? ⟨b, o, none⟩ := fun b o h => hb.frozen (p := ⟨b, o, none⟩) h
  have hz := hb.size
  exact ⟨x0.trans (hb.mono (by omega)), by rw [hc _ _ (by omega)]; exact x1, by rw [hc _ _ (by omega)]; exact x2, by rw [hc _ _ (by omega)]; exact x3,
    by rw [hf _ _ (by omega)]; exact x4, by rw [hc _ _ (by omega)]; exact x5, by rw [hf _ _ (by omega)]; exact x6, by omega⟩
theorem UI.put {w : World} {a b c : Nat} {w1 : World} (h : UI w a b c w1) (v : Nat) : UI w a b v (w1.setCell ⟨w.heap.size + 1 + 1, 0, none⟩ (.float .f64 v)) := by
  obtain ⟨x0, x1, x2, x3, x4, x5, x6, x7⟩ := h
  refine ⟨x0.setCell (by simp; omega) _, ?_⟩
  simp [go_sem, x1, x2, x3, x4, x5, x6]
  omega
theorem UI.start (w : World) (a b c : Nat) : UI w a b c ((((w.alloc (.cells #[.float .f64 a] 43)).alloc (.cells #[.float .f64 b] 43)).alloc (.cells #[.float .f64 c] 43)).alloc (.cells #[.float .f64 0] 43)) := by
  refine ⟨((((Below.refl _ w).alloc (Nat.le_refl _) _).alloc (by simp) _).alloc (by simp; omega) _).alloc (by simp; omega) _, ?_⟩
  simp [go_sem]

/-- With the cell of 'f' at K. -/
def FI (w : World) (K a b c : Nat) (w' : World) : Prop :=
  Below w.heap.size w w' ∧ w'.cell? ⟨w.heap.size, 0, none⟩ = some (.float .f64 a) ∧ w'.cell? ⟨w.heap.size + 1, 0, none⟩ = some (.float .f64 b) ∧ w'.cell? ⟨w.heap.size + 1 + 1, 0, none⟩ = some (.float .f64 c) ∧
  (w'.cell? ⟨K, 0, none⟩).isSome = true ∧ w'.frozen? ⟨K, 0, none⟩ = false ∧ w'.cell? ⟨w.heap.size + 1 + 1 + 1, 0, none⟩ = some (.float .f64 0) ∧ w'.frozen? ⟨w.heap.size + 1 + 1 + 1, 0, none⟩ = false ∧ w.heap.size + 1 + 1 + 1 < K ∧ K < w'.heap.size
theorem FI.step {w : World} {K a b c : Nat} {w1 w2 : World} (h : FI w K a b c w1) (hb : Below w1.heap.size w1 w2) : FI w K a b c w2 := by
  obtain ⟨x0, x1, x2, x3, x4, x5, x6, x7, x8, x9⟩ := h
  have hc : ∀ b o, b < w1.heap.size → w2.cell? ⟨b, o, none⟩ = w1.cell? ⟨b, o, none⟩ := fun b o h => hb.cell (p := ⟨b, o, none⟩) h
  have hf : ∀ b o, b < w1.heap.size → w2.frozen? ⟨b, o, none⟩ = w1.frozen? ⟨b, o, none⟩ := fun b o h => hb.frozen (p := ⟨b, o, none⟩) h
  have hz := hb.size
  exact ⟨x0.trans (hb.mono (by omega)), by rw [hc _ _ (by omega)]; exact x1, by rw [hc _ _ (by omega)]; exact x2, by rw [hc _ _ (by omega)]; exact x3,
    by rw [hc _ _ (by omega)]; exact x4, by rw [hf _ _ (by omega)]; exact x5, by rw [hc _ _ (by omega)]; exact x6, by rw [hf _ _ (by omega)]; exact x7, x8, by omega⟩
theorem FI.set {w : World} {K a b c : Nat} {w1 : World} {v : Value} (h : FI w K a b c w1) : FI w K a b c (w1.setCell ⟨K, 0, none⟩ v) := by
  obtain ⟨x0, x1, x2, x3, x4, x5, x6, x7, x8, x9⟩ := h
  obtain ⟨v4, h4⟩ := Option.isSome_iff_exists.1 x4
  have e1 : ¬ K = w.heap.size := by omega
  have e2 : ¬ K = w.heap.size + 1 := by omega
  have e3 : ¬ K = w.heap.size + 1 + 1 := by omega
  have e4 : ¬ K = w.heap.size + 1 + 1 + 1 := by omega
  have e5 : ¬ w.heap.size = K := by omega
  have e6 : ¬ w.heap.size + 1 = K := by omega
  have e7 : ¬ w.heap.size + 1 + 1 = K := by omega
  have e8 : ¬ w.heap.size + 1 + 1 + 1 = K := by omega
  refine ⟨x0.setCell (by show w.heap.size ≤ K; omega) _, ?_, ?_, ?_, ?_, ?_, ?_, ?_, x8, by simpa using x9⟩
  all_goals (set_option linter.unusedSimpArgs false in simp [go_sem, x1, x2, x3, h4, x5, x6, x7, e1, e2, e3, e4, e5, e6, e7, e8])
theorem FI.some {w : World} {K a b c : Nat} {w1 : World} (h : FI w K a b c w1) : ∃ v, w1.cell? ⟨K, 0, none⟩ = Option.some v := Option.isSome_iff_exists.1 h.2.2.2.2.1
theorem FI.start {w : World} {a b c : Nat} {w1 : World} (h : UI w a b c w1) : FI w w1.heap.size a b c (w1.alloc (.cells #[.float .f64 0] 43)) := by
  have hb : Below w1.heap.size w1 (w1.alloc (.cells #[.float .f64 0] 43)) := (Below.refl _ w1).alloc (Nat.le_refl _) _
  obtain ⟨x0, x1, x2, x3, x4, x5, x6, x7⟩ := h.step hb
  have h7 := h.2.2.2.2.2.2.2
  exact ⟨x0, x1, x2, x3, by simp [go_sem], by simp [go_sem], x5, x6, h7, by simp⟩

theorem FI.done {w : World} {K a b c : Nat} {w1 : World} (h : FI w K a b c w1) (v v' : Value) : Below w.heap.size w ((w1.setCell ⟨K, 0, none⟩ v).setCell ⟨w.heap.size + 1 + 1 + 1, 0, none⟩ v') :=
  (h.1.setCell (by have := h.2.2.2.2.2.2.2.2.1; show w.heap.size ≤ K; omega) _).setCell (by simp; omega) _
set_option maxRecDepth 100000 in
set_option maxHeartbeats 4000000 in
theorem hue (a b x : Nat) (w : World) :
    Calls Try.prog 39 #[.agg #[.float .f64 a], .agg #[.float .f64 b], .agg #[.float .f64 x]] w fun e w' => ∃ r, HueR a b x r ∧ e = .returned (.agg #[.float .f64 r]) ∧ Below w.heap.size w w' := by
  have D0 := Lib.hid (UI.start w a b x)
  go_enter Try.func39, Try.ntmps39
  go_upto_region 1 with fail
  generalize ((((w.alloc (.cells #[.float .f64 a] 43)).alloc (.cells #[.float .f64 b] 43)).alloc (.cells #[.float .f64 x] 43)).alloc (.cells #[.float .f64 0] 43)) = W0 at *
  go_cut [11] (fun _ wx => ∃ z s, FloorRes x z ∧ Res .sub x z s ∧ UI w a b s wx)
  case first =>
    have D1 := D0.out.step (Below.refl _ _).drew
    have y1 := D1.2.2.2.1
    have y4 := D1.2.2.2.2.1
    have ST := Lib.hid (fun w1 w2 (hc : UI w a b x w1) (hb : Below w1.heap.size w1 w2) => hc.step hb)
    go_region_with (first
      | (go_at_call 44; refine (floorA x _).mono ?_; rintro e w4 ⟨z, hz, rfl, hb4⟩; have HZ := Lib.hid hz; have C4 := ST.out _ _ (by assumption) hb4; clear hb4 hz; have z4 := C4.2.2.2.1; have z5 := C4.2.2.2.2.1)
      | (go_at_call 37; refine (subA x _ _).mono ?_; rintro e w5 ⟨s, hs, rfl, hb5⟩; have HS := Lib.hid hs; have C5 := ST.out _ _ (by assumption) hb5; clear hb5 hs; have z6 := C5.2.2.2.1; have z7 := C5.2.2.2.2.1))
    all_goals (go_wp2_with fail; go_meet; exact ⟨_, _, HZ.out, HS.out, UI.put (by assumption) _⟩)
  case rest =>
    obtain ⟨z, s, hz, hs, hu⟩ := hcut
    have HZ := Lib.hid hz
    have HS := Lib.hid hs
    have D2 := Lib.hid hu
    clear hz hs hu D0
    have x1 := D2.out.2.2.2.1
    go_wp2_with fail
    refine (mulConstA s 4618441417868443648 _).mono ?_
    rintro e w3 ⟨h, hh, rfl, hb3⟩
    have H6 := Lib.hid (show SixR x h from ⟨z, s, HZ.out, HS.out, hh⟩)
    have D3 := D2.out.step hb3
    clear hb3 D2 x1 hh HZ HS
    have x1 := D3.2.2.2.1
    have x4 := D3.2.2.2.2.1
    have HD3 := Lib.hid (D3.put h)
    clear D3
    go_upto_region 3 with fail
    clear x1 x4
    generalize (w3.setCell ⟨w.heap.size + 1 + 1, 0, none⟩ (.float .f64 h)) = W3 at *
    have F0 := Lib.hid (FI.start HD3.out)
    clear HD3
    go_upto_region 4 with fail
    generalize W3.alloc (.cells #[.float .f64 0] 43) = W4 at *
    generalize W3.heap.size = K at *
    by_cases o1 : ltB h 4607182418800017408 = true
    · have p1 : (FloatKind.f64.format.order h 4607182418800017408 == some .lt) = true := o1
      have HO1 := Lib.hid o1
      clear o1
      have x3 := F0.out.2.2.2.1
      go_wp2_with fail
      refine (value h _).mono ?_
      rintro e w4 ⟨rfl, hb4⟩
      have F1 := Lib.hid (F0.out.step hb4)
      clear hb4 F0 x3
      have x0 := F1.out.2.1
      have x1 := F1.out.2.2.1
      have x2 := F1.out.2.2.2.1
      go_wp2_with fail
      refine (lerp a b h _).mono ?_
      rintro e w5 ⟨r, hr, rfl, hb5⟩
      have HR := Lib.hid hr
      have F2 := Lib.hid (F1.out.step hb5)
      clear hb5 hr F1 x0 x1 x2 p1
      obtain ⟨v, hv⟩ := F2.out.some
      have fk := F2.out.2.2.2.2.2.1
      have c3 := F2.out.2.2.2.2.2.2.1
      have f3 := F2.out.2.2.2.2.2.2.2.1
      have lk := F2.out.2.2.2.2.2.2.2.2.1
      have e4 : ¬ K = w.heap.size + 1 + 1 + 1 := by omega
      have e8 : ¬ w.heap.size + 1 + 1 + 1 = K := by omega
      clear lk
      go_wp2
      exact bodyPost_ret (v := .agg #[.float .f64 r]) (by simp [results, Try.results39, go_sem, c3]) rfl ⟨_, ⟨h, H6.out, by unfold TailR; rw [if_pos HO1.out]; exact HR.out⟩, rfl, F2.out.done _ _⟩
    have n1 : ltB h 4607182418800017408 = false := by simpa using o1
    have p1 : (FloatKind.f64.format.order h 4607182418800017408 == some .lt) = false := n1
    have HO1 := Lib.hid o1
    clear o1 n1
    by_cases o2 : ltB h 4613937818241073152 = true
    · have p2 : (FloatKind.f64.format.order h 4613937818241073152 == some .lt) = true := o2
      have HO2 := Lib.hid o2
      clear o2
      have x3 := F0.out.2.2.2.1
      go_wp2_with fail
      refine (value h _).mono ?_
      rintro e w4 ⟨rfl, hb4⟩
      have F1 := Lib.hid (F0.out.step hb4)
      clear hb4 F0 x3
      have x3 := F1.out.2.2.2.1
      go_wp2_with fail
      refine (value h _).mono ?_
      rintro e w5 ⟨rfl, hb5⟩
      have F2 := Lib.hid (F1.out.step hb5)
      clear hb5 F1 x3
      have x1 := F2.out.2.2.1
      obtain ⟨v, hv⟩ := F2.out.some
      have fk := F2.out.2.2.2.2.2.1
      have c3 := F2.out.2.2.2.2.2.2.1
      have f3 := F2.out.2.2.2.2.2.2.2.1
      have lk := F2.out.2.2.2.2.2.2.2.2.1
      have e4 : ¬ K = w.heap.size + 1 + 1 + 1 := by omega
      have e8 : ¬ w.heap.size + 1 + 1 + 1 = K := by omega
      clear lk p1
      go_wp2
      exact bodyPost_ret (v := .agg #[.float .f64 b]) (by simp [results, Try.results39, go_sem, c3]) rfl ⟨_, ⟨h, H6.out, by unfold TailR; rw [if_neg HO1.out, if_pos HO2.out]⟩, rfl, F2.out.done _ _⟩
    have n2 : ltB h 4613937818241073152 = false := by simpa using o2
    have p2 : (FloatKind.f64.format.order h 4613937818241073152 == some .lt) = false := n2
    have HO2 := Lib.hid o2
    clear o2 n2
    by_cases o3 : ltB h 4616189618054758400 = true
    · have p3 : (FloatKind.f64.format.order h 4616189618054758400 == some .lt) = true := o3
      have HO3 := Lib.hid o3
      clear o3
      have x3 := F0.out.2.2.2.1
      go_wp2_with fail
      refine (value h _).mono ?_
      rintro e w4 ⟨rfl, hb4⟩
      have F1 := Lib.hid (F0.out.step hb4)
      clear hb4 F0 x3
      have x3 := F1.out.2.2.2.1
      go_wp2_with fail
      refine (value h _).mono ?_
      rintro e w5 ⟨rfl, hb5⟩
      have F2 := Lib.hid (F1.out.step hb5)
      clear hb5 F1 x3
      have x3 := F2.out.2.2.2.1
      go_wp2_with fail
      refine (value h _).mono ?_
      rintro e w6 ⟨rfl, hb6⟩
      have F3 := Lib.hid (F2.out.step hb6)
      clear hb6 F2 x3
      go_wp2_with fail
      have START := Lib.hid (show FI w K a b h w6.drew from F3.out.step (Below.refl _ _).drew)
      have STEP := Lib.hid (fun w1 w2 (hc : FI w K a b h w1) (hb : Below w1.heap.size w1 w2) => hc.step hb)
      clear F3 p1 p2 p3
      go_region_held3 (fun w' => Below w.heap.size w w' ∧ w'.cell? ⟨w.heap.size, 0, none⟩ = some (.float .f64 a) ∧ w'.cell? ⟨w.heap.size + 1, 0, none⟩ = some (.float .f64 b) ∧ w'.cell? ⟨w.heap.size + 1 + 1, 0, none⟩ = some (.float .f64 h) ∧ (w'.cell? ⟨K, 0, none⟩).isSome = true ∧ w'.frozen? ⟨K, 0, none⟩ = false ∧ w'.cell? ⟨w.heap.size + 1 + 1 + 1, 0, none⟩ = some (.float .f64 0) ∧ w'.frozen? ⟨w.heap.size + 1 + 1 + 1, 0, none⟩ = false ∧ w.heap.size + 1 + 1 + 1 < K ∧ K < w'.heap.size)
        (first | assumption | exact START.out | exact FI.set (by assumption))
        (first
          | (go_at_call 42; refine (neg h _).mono ?_; rintro e w7 ⟨rfl, hb⟩; have hI := STEP.out _ _ (by assumption) hb; unfold FI at hI; clear hb)
          | (go_at_call 34; refine (addConstA _ _ _).mono ?_; rintro e w7 ⟨q, hq, rfl, hb⟩; have HQ := Lib.hid hq; have hI := STEP.out _ _ (by assumption) hb; unfold FI at hI; clear hb hq)
          | (go_at_call 45; refine (lerp _ _ _ _).mono ?_; rintro e w7 ⟨r, hr, rfl, hb⟩; have HR := Lib.hid hr; have hI := STEP.out _ _ (by assumption) hb; obtain ⟨v, hv⟩ := hI.some; have HI := Lib.hid hI; unfold FI at hI; clear hb hr))
      have c3 := HI.out.2.2.2.2.2.2.1
      have f3 := HI.out.2.2.2.2.2.2.2.1
      have lk := HI.out.2.2.2.2.2.2.2.2.1
      have e4 : ¬ K = w.heap.size + 1 + 1 + 1 := by omega
      have e8 : ¬ w.heap.size + 1 + 1 + 1 = K := by omega
      clear lk
      go_wp2
      exact bodyPost_ret (v := .agg #[.float .f64 r]) (by simp [results, Try.results39, go_sem, c3]) rfl ⟨_, ⟨h, H6.out, by unfold TailR; rw [if_neg HO1.out, if_neg HO2.out, if_pos HO3.out]; exact ⟨q, HQ.out, HR.out⟩⟩, rfl, HI.out.done _ _⟩
    · have n3 : ltB h 4616189618054758400 = false := by simpa using o3
      have p3 : (FloatKind.f64.format.order h 4616189618054758400 == some .lt) = false := n3
      have HO3 := Lib.hid o3
      clear o3 n3
      have x3 := F0.out.2.2.2.1
      go_wp2_with fail
      refine (value h _).mono ?_
      rintro e w4 ⟨rfl, hb4⟩
      have F1 := Lib.hid (F0.out.step hb4)
      clear hb4 F0 x3
      have x3 := F1.out.2.2.2.1
      go_wp2_with fail
      refine (value h _).mono ?_
      rintro e w5 ⟨rfl, hb5⟩
      have F3 := Lib.hid (F1.out.step hb5)
      clear hb5 F1 x3
      have x3 := F3.out.2.2.2.1
      go_wp2_with fail
      refine (value h _).mono ?_
      rintro e w6 ⟨rfl, hb6⟩
      have F2 := Lib.hid (F3.out.step hb6)
      clear hb6 F3 x3
      have x0 := F2.out.2.1
      obtain ⟨v, hv⟩ := F2.out.some
      have fk := F2.out.2.2.2.2.2.1
      have c3 := F2.out.2.2.2.2.2.2.1
      have f3 := F2.out.2.2.2.2.2.2.2.1
      have lk := F2.out.2.2.2.2.2.2.2.2.1
      have e4 : ¬ K = w.heap.size + 1 + 1 + 1 := by omega
      have e8 : ¬ w.heap.size + 1 + 1 + 1 = K := by omega
      clear lk p1 p2
      go_wp2
      exact bodyPost_ret (v := .agg #[.float .f64 a]) (by simp [results, Try.results39, go_sem, c3]) rfl ⟨_, ⟨h, H6.out, by unfold TailR; rw [if_neg HO1.out, if_neg HO2.out, if_neg HO3.out]⟩, rfl, F2.out.done _ _⟩
end Go.Proofs.Ytcaiehnihgcegaa.F64
