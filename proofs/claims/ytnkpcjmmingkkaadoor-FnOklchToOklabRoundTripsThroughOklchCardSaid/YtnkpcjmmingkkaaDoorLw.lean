/- F64.Sqrt, F64.Squared, F64.Atan2, lab_to_lch, walked. Printed by gen_lw.py. -/
import Derived.Test.YtnkpcjmmingkkaaDoorTu
import Derived.Test.YtnkpcjmmingkkaaDoorSq
import Derived.Test.YtnkpcjmmingkkaaDoorTw
import Derived.Laws.Externs
import Derived.Deep.Cut
namespace Go.Proofs.YtnkpcjmmingkkaaDoor.F64
open Go Go.RowKit Go.Lib Go.Proofs.YtnkpcjmmingkkaaDoor.FL
set_option linter.unusedVariables false
theorem sqrtC (x r : Nat) (h : Ieee.double.sqrt x = some r) (w : World) : (callFunc 33 #[.float .f64 x]).run Tryd.prog w = .ok (.value (.float .f64 r)) w := by
  rw [run_callFunc_extern Tryd.func33 (by kernel_rfl) (by kernel_rfl) (by kernel_rfl) (e := Extern.MathSqrt.sqrt) (by kernel_rfl)]
  have e : Extern.MathSqrt.sqrt #[.float .f64 x] = (match FloatKind.f64.format.sqrt x with | some r => pure (.float .f64 r) | none => (do pure (.float .f64 (← choose (.nanBits .f64 x x))) : Sem Value)) := rfl
  rw [show FloatKind.f64.format.sqrt x = some r from h] at e
  rw [e]
  rfl
theorem mSqrt (x r : Nat) (h : Ieee.double.sqrt x = some r) (w : World) : Calls Tryd.prog 26 #[.float .f64 x] w (VP r w) := by
  have h1 := sqrtC x r h
  clear h
  go_enter Tryd.func26, Tryd.ntmps26
  go_wp2_with fail
  go_ret
  exact ⟨rfl, Below.refl _ _⟩
theorem sqrtF (x v : Nat) (w : World) (h : Ieee.double.sqrt x = some v) :
    Calls Tryd.prog 22 #[.agg #[.float .f64 x]] w fun e w' => e = .returned (.agg #[.float .f64 v]) ∧ Below w.heap.size w w' := by
  have H := Lib.hid (fun W => mSqrt x v h W)
  clear h
  go_enter Tryd.func22, Tryd.ntmps22
  go_wp2_with fail
  refine (H.out _).mono ?_
  rintro e w1 ⟨rfl, hb⟩
  obtain ⟨hc, hf⟩ := bcell hb
  have hz : w.heap.size + 1 < w1.heap.size := by have := hb.size; simp at this; omega
  go_wp2_with fail
  refine (newF64 v _).mono ?_
  rintro e w2 ⟨rfl, hb2⟩
  obtain ⟨hc2, hf2⟩ := bcell hb2
  have hz2 : w.heap.size + 1 < w2.heap.size := by have := hb2.size; omega
  go_wp2
  refine bodyPost_ret (v := .agg #[.float .f64 v]) (by simp [results, Tryd.results22, go_sem, hc, hc2, hz]) rfl ⟨rfl, ?_⟩
  exact (((((Below.refl _ _).alloc (Nat.le_refl _) _).alloc (by simp) _).trans (hb.mono (by simp; omega))).trans (hb2.mono (by omega))).setCell (by simp) _
theorem atan2F (y x v : Nat) (w : World) (h : ∀ W, Calls Tryd.prog 25 #[.float .f64 y, .float .f64 x] W (VP v W)) :
    Calls Tryd.prog 18 #[.agg #[.float .f64 y], .agg #[.float .f64 x]] w fun e w' => e = .returned (.agg #[.float .f64 v]) ∧ Below w.heap.size w w' := by
  have H := Lib.hid h
  clear h
  go_enter Tryd.func18, Tryd.ntmps18
  go_wp2_with fail
  refine (H.out _).mono ?_
  rintro e w1 ⟨rfl, hb⟩
  obtain ⟨hc, hf⟩ := bcell hb
  have hz : w.heap.size + 1 + 1 < w1.heap.size := by have := hb.size; simp at this; omega
  go_wp2_with fail
  refine (newF64 v _).mono ?_
  rintro e w2 ⟨rfl, hb2⟩
  obtain ⟨hc2, hf2⟩ := bcell hb2
  have hz2 : w.heap.size + 1 + 1 < w2.heap.size := by have := hb2.size; omega
  go_wp2
  refine bodyPost_ret (v := .agg #[.float .f64 v]) (by simp [results, Tryd.results18, go_sem, hc, hc2, hz]) rfl ⟨rfl, ?_⟩
  exact ((((((Below.refl _ _).alloc (Nat.le_refl _) _).alloc (by simp) _).alloc (by simp; omega) _).trans (hb.mono (by simp; omega))).trans (hb2.mono (by omega))).setCell (by simp; omega) _
theorem squaredF (x v : Nat) (w : World) (h : floatBits .mul .f64 x x = some v) :
    Calls Tryd.prog 20 #[.agg #[.float .f64 x]] w fun e w' => e = .returned (.agg #[.float .f64 v]) ∧ Below w.heap.size w w' := by
  have H := Lib.hid (fun W => mul x x v W h)
  clear h
  go_enter Tryd.func20, Tryd.ntmps20
  go_wp2_with fail
  all_goals
    refine (H.out _).mono ?_
    rintro e w1 ⟨rfl, hb⟩
    obtain ⟨hc, hf⟩ := bcell hb
    have hz : w.heap.size + 1 < w1.heap.size := by have := hb.size; simp at this; omega
    go_wp2
    refine bodyPost_ret (v := .agg #[.float .f64 v]) (by simp [results, Tryd.results20, go_sem, hc]) rfl ⟨rfl, ?_⟩
    exact ((((Below.refl _ _).alloc (Nat.le_refl _) _).alloc (by simp) _).trans (hb.mono (by simp; omega))).setCell (by simp) _
theorem mAtan2 (y x : Nat) (ly : y < 2 ^ 64) (lx : x < 2 ^ 64) (fy : FL.Fin y) (fx : FL.Fin x) (w : World) : Calls Tryd.prog 25 #[.float .f64 y, .float .f64 x] w (VP (a2V y x) w) := by
  have f := (a2_turn y x fy fx).1
  refine (show Calls Tryd.prog 25 #[.float .f64 y, .float .f64 x] (w.drewN 0) (FP (a2V y x) w) from atan2E y x w 0 ly lx fy fx (fun h1 h2 => ?_)).mono ?_
  · have hy : rv y ≠ 0 := by rw [zero_order fy] at h1; exact of_decide_eq_false h1
    have hx : rv x ≠ 0 := by rw [zero_order fx] at h2; exact of_decide_eq_false h2
    exact ⟨(atanQ y x fy fx hy hx).1, quo_nan y x fy fx hx⟩
  · rintro e w' ⟨u, k, rfl, hu, rfl⟩
    rw [hu.eq (fun h => by unfold IsNaN at h; unfold FL.Fin at f; omega)]
    exact ⟨rfl, below_dn w k⟩
/-- What lab_to_lch's last region needs of memory. -/
def LI (w : World) (g l a b h : Nat) (w' : World) : Prop :=
  Below w.heap.size w w' ∧ w'.cell? ⟨w.heap.size, 0, none⟩ = some (.float .f64 l) ∧ w'.cell? ⟨w.heap.size + 1, 0, none⟩ = some (.float .f64 a) ∧ w'.cell? ⟨w.heap.size + 1 + 1, 0, none⟩ = some (.float .f64 b) ∧ (w'.cell? ⟨w.heap.size + 1 + 1 + 1, 0, none⟩).isSome = true ∧ (w'.cell? ⟨w.heap.size + 1 + 1 + 1 + 1, 0, none⟩).isSome = true ∧ (w'.cell? ⟨w.heap.size + 1 + 1 + 1 + 1 + 1, 0, none⟩).isSome = true ∧ w'.frozen? ⟨w.heap.size + 1 + 1 + 1, 0, none⟩ = false ∧ w'.frozen? ⟨w.heap.size + 1 + 1 + 1 + 1, 0, none⟩ = false ∧ w'.frozen? ⟨w.heap.size + 1 + 1 + 1 + 1 + 1, 0, none⟩ = false ∧ w'.cell? ⟨g, 0, none⟩ = some (.float .f64 h) ∧ w'.frozen? ⟨g, 0, none⟩ = false ∧ w.heap.size + 1 + 1 + 1 + 1 + 1 < g ∧ g < w'.heap.size
theorem LI.step {w : World} {g l a b h : Nat} {w1 w2 : World} (H : LI w g l a b h w1) (hb : Below w1.heap.size w1 w2) : LI w g l a b h w2 := by
  obtain ⟨hbw, x0, x1, x2, x3, x4, x5, x6, x7, x8, x9, x10, x11, x12⟩ := H
  have hc : ∀ b o, b < w1.heap.size → w2.cell? ⟨b, o, none⟩ = w1.cell? ⟨b, o, none⟩ := fun b o h => hb.cell (p := ⟨b, o, none⟩) h
  have hf : ∀ b o, b < w1.heap.size → w2.frozen? ⟨b, o, none⟩ = w1.frozen? ⟨b, o, none⟩ := fun b o h => hb.frozen (p := ⟨b, o, none⟩) h
  have hz := hb.size
  exact ⟨hbw.trans (hb.mono (by omega)),
    by rw [hc _ _ (by omega)]; exact x0, by rw [hc _ _ (by omega)]; exact x1, by rw [hc _ _ (by omega)]; exact x2, by rw [hc _ _ (by omega)]; exact x3, by rw [hc _ _ (by omega)]; exact x4, by rw [hc _ _ (by omega)]; exact x5,
    by rw [hf _ _ (by omega)]; exact x6, by rw [hf _ _ (by omega)]; exact x7, by rw [hf _ _ (by omega)]; exact x8, by rw [hc _ _ (by omega)]; exact x9, by rw [hf _ _ (by omega)]; exact x10, x11, by omega⟩
theorem LI.drew {w : World} {g l a b h : Nat} {w1 : World} (H : LI w g l a b h w1) : LI w g l a b h w1.drew := H.step (Below.refl _ _).drew
theorem LI.hue {w : World} {g l a b h h' : Nat} {w1 : World} (H : LI w g l a b h w1) : LI w g l a b h' (w1.setCell ⟨g, 0, none⟩ (.float .f64 h')) := by
  obtain ⟨hbw, x0, x1, x2, x3, x4, x5, x6, x7, x8, x9, x10, x11, x12⟩ := H
  obtain ⟨v3, h3⟩ := Option.isSome_iff_exists.1 x3
  obtain ⟨v4, h4⟩ := Option.isSome_iff_exists.1 x4
  obtain ⟨v5, h5⟩ := Option.isSome_iff_exists.1 x5
  refine ⟨hbw.setCell (by show w.heap.size ≤ g; omega) _, ?_⟩
  simp [go_sem, x0, x1, x2, h3, h4, h5, x6, x7, x8, x9, x10]
  omega
theorem LI.set3 {w : World} {g l a b h : Nat} {w1 : World} {v : Value} (H : LI w g l a b h w1) : LI w g l a b h (w1.setCell ⟨w.heap.size + 1 + 1 + 1, 0, none⟩ v) := by
  obtain ⟨hbw, x0, x1, x2, x3, x4, x5, x6, x7, x8, x9, x10, x11, x12⟩ := H
  obtain ⟨v3, h3⟩ := Option.isSome_iff_exists.1 x3
  obtain ⟨v4, h4⟩ := Option.isSome_iff_exists.1 x4
  obtain ⟨v5, h5⟩ := Option.isSome_iff_exists.1 x5
  refine ⟨hbw.setCell (by simp; try omega) _, ?_⟩
  simp [go_sem, x0, x1, x2, h3, h4, h5, x6, x7, x8, x9, x10]
  omega
theorem LI.set4 {w : World} {g l a b h : Nat} {w1 : World} {v : Value} (H : LI w g l a b h w1) : LI w g l a b h (w1.setCell ⟨w.heap.size + 1 + 1 + 1 + 1, 0, none⟩ v) := by
  obtain ⟨hbw, x0, x1, x2, x3, x4, x5, x6, x7, x8, x9, x10, x11, x12⟩ := H
  obtain ⟨v3, h3⟩ := Option.isSome_iff_exists.1 x3
  obtain ⟨v4, h4⟩ := Option.isSome_iff_exists.1 x4
  obtain ⟨v5, h5⟩ := Option.isSome_iff_exists.1 x5
  refine ⟨hbw.setCell (by simp; try omega) _, ?_⟩
  simp [go_sem, x0, x1, x2, h3, h4, h5, x6, x7, x8, x9, x10]
  omega
theorem LI.set5 {w : World} {g l a b h : Nat} {w1 : World} {v : Value} (H : LI w g l a b h w1) : LI w g l a b h (w1.setCell ⟨w.heap.size + 1 + 1 + 1 + 1 + 1, 0, none⟩ v) := by
  obtain ⟨hbw, x0, x1, x2, x3, x4, x5, x6, x7, x8, x9, x10, x11, x12⟩ := H
  obtain ⟨v3, h3⟩ := Option.isSome_iff_exists.1 x3
  obtain ⟨v4, h4⟩ := Option.isSome_iff_exists.1 x4
  obtain ⟨v5, h5⟩ := Option.isSome_iff_exists.1 x5
  refine ⟨hbw.setCell (by simp; try omega) _, ?_⟩
  simp [go_sem, x0, x1, x2, h3, h4, h5, x6, x7, x8, x9, x10]
  omega
theorem LI.some {w : World} {g l a b h : Nat} {w' : World} (H : LI w g l a b h w') : ∃ v3 v4 v5, w'.cell? ⟨w.heap.size + 1 + 1 + 1, 0, none⟩ = Option.some v3 ∧ w'.cell? ⟨w.heap.size + 1 + 1 + 1 + 1, 0, none⟩ = Option.some v4 ∧ w'.cell? ⟨w.heap.size + 1 + 1 + 1 + 1 + 1, 0, none⟩ = Option.some v5 := by
  obtain ⟨_, _, _, _, x3, x4, x5, _, _, _, _, _, _, _⟩ := H
  obtain ⟨v3, h3⟩ := Option.isSome_iff_exists.1 x3
  obtain ⟨v4, h4⟩ := Option.isSome_iff_exists.1 x4
  obtain ⟨v5, h5⟩ := Option.isSome_iff_exists.1 x5
  exact ⟨v3, v4, v5, h3, h4, h5⟩
theorem LI.start (w : World) (l a b h t0 t1 t2 t3 t4 t5 t6 : Nat) (z3 z4 z5 : Value) (w2 : World) (hb : Below ((((((w.alloc (.cells #[.float .f64 l] t0)).alloc (.cells #[.float .f64 a] t1)).alloc (.cells #[.float .f64 b] t2)).alloc (.cells #[z3] t3)).alloc (.cells #[z4] t4)).alloc (.cells #[z5] t5)).heap.size ((((((w.alloc (.cells #[.float .f64 l] t0)).alloc (.cells #[.float .f64 a] t1)).alloc (.cells #[.float .f64 b] t2)).alloc (.cells #[z3] t3)).alloc (.cells #[z4] t4)).alloc (.cells #[z5] t5)) w2) :
    LI w w2.heap.size l a b h (w2.alloc (.cells #[.float .f64 h] t6)) := by
  have b6 : Below w.heap.size w ((((((w.alloc (.cells #[.float .f64 l] t0)).alloc (.cells #[.float .f64 a] t1)).alloc (.cells #[.float .f64 b] t2)).alloc (.cells #[z3] t3)).alloc (.cells #[z4] t4)).alloc (.cells #[z5] t5)) :=
    ((((((Below.refl _ w).alloc (Nat.le_refl _) _).alloc (by simp) _).alloc (by simp; omega) _).alloc (by simp; omega) _).alloc (by simp; omega) _).alloc (by simp; omega) _
  have hz := hb.size
  have hs : ((((((w.alloc (.cells #[.float .f64 l] t0)).alloc (.cells #[.float .f64 a] t1)).alloc (.cells #[.float .f64 b] t2)).alloc (.cells #[z3] t3)).alloc (.cells #[z4] t4)).alloc (.cells #[z5] t5)).heap.size = w.heap.size + 1 + 1 + 1 + 1 + 1 + 1 := by simp
  rw [hs] at hz
  have hc : ∀ b' o, b' < w.heap.size + 1 + 1 + 1 + 1 + 1 + 1 → w2.cell? ⟨b', o, none⟩ = ((((((w.alloc (.cells #[.float .f64 l] t0)).alloc (.cells #[.float .f64 a] t1)).alloc (.cells #[.float .f64 b] t2)).alloc (.cells #[z3] t3)).alloc (.cells #[z4] t4)).alloc (.cells #[z5] t5)).cell? ⟨b', o, none⟩ := fun b' o h => hb.cell (p := ⟨b', o, none⟩) (by rw [hs]; exact h)
  have hf : ∀ b' o, b' < w.heap.size + 1 + 1 + 1 + 1 + 1 + 1 → w2.frozen? ⟨b', o, none⟩ = ((((((w.alloc (.cells #[.float .f64 l] t0)).alloc (.cells #[.float .f64 a] t1)).alloc (.cells #[.float .f64 b] t2)).alloc (.cells #[z3] t3)).alloc (.cells #[z4] t4)).alloc (.cells #[z5] t5)).frozen? ⟨b', o, none⟩ := fun b' o h => hb.frozen (p := ⟨b', o, none⟩) (by rw [hs]; exact h)
  have bo := (Below.refl w2.heap.size w2).alloc (Nat.le_refl _) (.cells #[.float .f64 h] t6)
  have hc2 : ∀ b o, b < w2.heap.size → (w2.alloc (.cells #[.float .f64 h] t6)).cell? ⟨b, o, none⟩ = w2.cell? ⟨b, o, none⟩ := fun b o h => bo.cell (p := ⟨b, o, none⟩) h
  have hf2 : ∀ b o, b < w2.heap.size → (w2.alloc (.cells #[.float .f64 h] t6)).frozen? ⟨b, o, none⟩ = w2.frozen? ⟨b, o, none⟩ := fun b o h => bo.frozen (p := ⟨b, o, none⟩) h
  have b0 : Below w.heap.size w (w2.alloc (.cells #[.float .f64 h] t6)) := (b6.trans (hb.mono (by rw [hs]; omega))).alloc (by omega) _
  refine ⟨b0, ?_, ?_, ?_, ?_, ?_, ?_, ?_, ?_, ?_, ?_, ?_, by omega, by simp⟩
  · rw [hc2 _ _ (by omega), hc _ _ (by omega)]; simp [go_sem]
  · rw [hc2 _ _ (by omega), hc _ _ (by omega)]; simp [go_sem]
  · rw [hc2 _ _ (by omega), hc _ _ (by omega)]; simp [go_sem]
  · rw [hc2 _ _ (by omega), hc _ _ (by omega)]; simp [go_sem]
  · rw [hc2 _ _ (by omega), hc _ _ (by omega)]; simp [go_sem]
  · rw [hc2 _ _ (by omega), hc _ _ (by omega)]; simp [go_sem]
  · rw [hf2 _ _ (by omega), hf _ _ (by omega)]; simp [go_sem]
  · rw [hf2 _ _ (by omega), hf _ _ (by omega)]; simp [go_sem]
  · rw [hf2 _ _ (by omega), hf _ _ (by omega)]; simp [go_sem]
  · simp [go_sem]
  · simp [go_sem]
set_option maxRecDepth 100000 in
set_option maxHeartbeats 4000000 in
theorem lab (l a b h0 hh aa bb ss cc t : Nat) (w : World) (HA : ∀ W, Calls Tryd.prog 25 #[.float .f64 b, .float .f64 a] W (VP t W)) (ht : floatBits .mul .f64 t 4633260481411531256 = Option.some h0)
    (hn : if (FloatKind.f64.format.order h0 0 == Option.some .lt) = true then floatBits .add .f64 h0 4645040803167600640 = Option.some hh else hh = h0) (h1 : floatBits .mul .f64 a a = Option.some aa) (h2 : floatBits .mul .f64 b b = Option.some bb) (h3 : floatBits .add .f64 aa bb = Option.some ss) (h4 : Ieee.double.sqrt ss = Option.some cc) :
    Calls Tryd.prog 13 #[.agg #[.float .f64 l], .agg #[.float .f64 a], .agg #[.float .f64 b]] w
      fun e w' => e = .returned (.tuple #[.agg #[.float .f64 l], .agg #[.float .f64 cc], .agg #[.float .f64 hh]]) ∧ Below w.heap.size w w' := by
  have ST := Lib.hid (fun t0 t1 t2 t3 t4 t5 t6 z3 z4 z5 w2 hb => LI.start w l a b h0 t0 t1 t2 t3 t4 t5 t6 z3 z4 z5 w2 hb)
  have STEP := Lib.hid (fun g w1 w2 (h : LI w g l a b hh w1) (hb : Below w1.heap.size w1 w2) => h.step hb)
  have AT := Lib.hid (fun W => atan2F b a t W HA)
  have MT := Lib.hid (fun W => mulConst t 4633260481411531256 h0 W ht)
  have SA := Lib.hid (fun W => squaredF a aa W h1)
  have SB := Lib.hid (fun W => squaredF b bb W h2)
  have AD := Lib.hid (fun W => add aa bb ss W h3)
  have SQ := Lib.hid (fun W => sqrtF ss cc W h4)
  have HN := Lib.hid hn
  clear HA ht hn h1 h2 h3 h4
  go_enter Tryd.func13, Tryd.ntmps13
  go_wp2_with fail
  refine (AT.out _).mono ?_
  rintro e w1 ⟨rfl, hb1⟩
  go_wp2_with fail
  refine (MT.out _).mono ?_
  rintro e w2 ⟨rfl, hb2⟩
  have L2 := Lib.hid (ST.out _ _ _ _ _ _ 29 _ _ _ w2 (hb1.trans (hb2.mono hb1.size)))
  clear hb1 hb2 ST AT MT
  go_wp2_with fail
  generalize w2.alloc (.cells #[.float .f64 h0] 29) = W2 at *
  generalize w2.heap.size = g at *
  refine (value h0 _).mono ?_
  rintro e w3 ⟨rfl, hb3⟩
  have L3 := Lib.hid (L2.out.step hb3)
  clear hb3 L2
  cases nb : (FloatKind.f64.format.order h0 0 == Option.some .lt)
  case' true =>
    have hn := HN.out
    rw [nb, if_pos rfl] at hn
    have AC := Lib.hid (fun W => addConst h0 4645040803167600640 hh W hn)
    clear hn HN
    have g3 : w3.cell? ⟨g, 0, none⟩ = some (.float .f64 h0) := L3.out.2.2.2.2.2.2.2.2.2.2.1
    go_wp2_with fail
    refine (AC.out _).mono ?_
    rintro e w4 ⟨rfl, hb4⟩
    have L4 := L3.out.step hb4
    have g4 : w4.cell? ⟨g, 0, none⟩ = some (.float .f64 h0) := L4.2.2.2.2.2.2.2.2.2.2.1
    have f4 : w4.frozen? ⟨g, 0, none⟩ = false := L4.2.2.2.2.2.2.2.2.2.2.2.1
    have L5 := Lib.hid (show LI w g l a b hh (w4.setCell ⟨g, 0, none⟩ (.float .f64 hh)) from L4.hue)
    clear hb4 L4 L3 AC g3
    go_upto_region 4 with fail
    clear g4 f4
    generalize w4.setCell ⟨g, 0, none⟩ (.float .f64 hh) = W5 at *
  case' false =>
    have hn := HN.out
    rw [nb, if_neg (by decide)] at hn
    subst hn
    have L5 := L3
    clear L3 HN
    obtain ⟨W5, hW5⟩ : ∃ W5 : World, W5 = w3 := ⟨_, rfl⟩
    subst hW5
    go_upto_region 4 with fail
  all_goals
    have START := Lib.hid L5.out.drew
    clear L5 nb
    go_region_held3 (fun w' => Below w.heap.size w w' ∧ w'.cell? ⟨w.heap.size, 0, none⟩ = some (.float .f64 l) ∧ w'.cell? ⟨w.heap.size + 1, 0, none⟩ = some (.float .f64 a) ∧ w'.cell? ⟨w.heap.size + 1 + 1, 0, none⟩ = some (.float .f64 b) ∧ (w'.cell? ⟨w.heap.size + 1 + 1 + 1, 0, none⟩).isSome = true ∧ (w'.cell? ⟨w.heap.size + 1 + 1 + 1 + 1, 0, none⟩).isSome = true ∧ (w'.cell? ⟨w.heap.size + 1 + 1 + 1 + 1 + 1, 0, none⟩).isSome = true ∧ w'.frozen? ⟨w.heap.size + 1 + 1 + 1, 0, none⟩ = false ∧ w'.frozen? ⟨w.heap.size + 1 + 1 + 1 + 1, 0, none⟩ = false ∧ w'.frozen? ⟨w.heap.size + 1 + 1 + 1 + 1 + 1, 0, none⟩ = false ∧ w'.cell? ⟨g, 0, none⟩ = some (.float .f64 hh) ∧ w'.frozen? ⟨g, 0, none⟩ = false ∧ w.heap.size + 1 + 1 + 1 + 1 + 1 < g ∧ g < w'.heap.size)
      (first | assumption | exact START.out | exact LI.set3 (by assumption) | exact LI.set4 (by assumption) | exact LI.set5 (by assumption))
      (first
        | (go_at_call 20; (first | with_reducible refine (SA.out _).mono ?_ | with_reducible refine (SB.out _).mono ?_); rintro e w1 ⟨rfl, hb⟩; have hI := STEP.out _ _ _ (by assumption) hb; obtain ⟨v3, v4, v5, hv3, hv4, hv5⟩ := hI.some; unfold LI at hI; clear hb)
        | (go_at_call 21; refine (AD.out _).mono ?_; rintro e w1 ⟨rfl, hb⟩; have hI := STEP.out _ _ _ (by assumption) hb; obtain ⟨v3, v4, v5, hv3, hv4, hv5⟩ := hI.some; unfold LI at hI; clear hb)
        | (go_at_call 22; refine (SQ.out _).mono ?_; rintro e w1 ⟨rfl, hb⟩; have hI := STEP.out _ _ _ (by assumption) hb; obtain ⟨v3, v4, v5, hv3, hv4, hv5⟩ := hI.some; unfold LI at hI; clear hb))
    go_wp2
    refine bodyPost_ret (v := .tuple #[.agg #[.float .f64 l], .agg #[.float .f64 cc], .agg #[.float .f64 hh]]) (by simp [results, Tryd.results13, go_sem, hv3, hv4, hv5]) rfl ⟨rfl, ?_⟩
    exact And.left (show LI w g l a b hh _ by assumption)
end Go.Proofs.YtnkpcjmmingkkaaDoor.F64
