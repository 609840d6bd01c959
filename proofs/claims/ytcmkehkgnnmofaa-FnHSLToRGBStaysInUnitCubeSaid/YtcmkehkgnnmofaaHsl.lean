/- hsl_to_rgb. -/
import Derived.Test.YtcmkehkgnnmofaaClo
namespace Go.Proofs.Ytcmkehkgnnmofaa.F64
open Go.RowKit
def g1 (h : Nat) : Nat := fo .quo h 4645040803167600640
def g2 (h : Nat) : Nat := fo .sub (g1 h) (FL.floorw (g1 h))
def g3 (h : Nat) : Nat := fo .mul (g2 h) 4645040803167600640
def pct (x : Nat) : Nat := fo .quo x 4636737291354636288
structure HslOK (h s l : Nat) (Q : Nat → Prop) : Prop where
  o1 : ok .quo h 4645040803167600640
  f1 : FL.Fin (g1 h)
  o2 : ok .sub (g1 h) (FL.floorw (g1 h))
  o3 : ok .mul (g2 h) 4645040803167600640
  o4 : ok .quo s 4636737291354636288
  o5 : ok .quo l 4636737291354636288
  k0 : HueOK (g3 h) 0
  k8 : HueOK (g3 h) 4620693217682128896
  k4 : HueOK (g3 h) 4616189618054758400
  li : LightOK (pct l) (pct s) Q

def DI (w : World) (hv sv lv : Nat) (w' : World) : Prop :=
  Below w.heap.size w w' ∧ w'.cell? ⟨w.heap.size, 0, none⟩ = some (.float .f64 hv) ∧ w'.cell? ⟨w.heap.size + 1, 0, none⟩ = some (.float .f64 sv) ∧ w'.cell? ⟨w.heap.size + 1 + 1, 0, none⟩ = some (.float .f64 lv) ∧
  w'.frozen? ⟨w.heap.size, 0, none⟩ = false ∧ w'.frozen? ⟨w.heap.size + 1, 0, none⟩ = false ∧ w'.frozen? ⟨w.heap.size + 1 + 1, 0, none⟩ = false ∧
  w'.cell? ⟨w.heap.size + 1 + 1 + 1, 0, none⟩ = some (.float .f64 0) ∧ w'.cell? ⟨w.heap.size + 1 + 1 + 1 + 1, 0, none⟩ = some (.float .f64 0) ∧ w'.cell? ⟨w.heap.size + 1 + 1 + 1 + 1 + 1, 0, none⟩ = some (.float .f64 0) ∧
  w'.frozen? ⟨w.heap.size + 1 + 1 + 1, 0, none⟩ = false ∧ w'.frozen? ⟨w.heap.size + 1 + 1 + 1 + 1, 0, none⟩ = false ∧ w'.frozen? ⟨w.heap.size + 1 + 1 + 1 + 1 + 1, 0, none⟩ = false ∧
  w.heap.size + 1 + 1 + 1 + 1 + 1 < w'.heap.size
theorem DI.step {w : World} {hv sv lv : Nat} {w1 w2 : World} (h : DI w hv sv lv w1) (hb : Below w1.heap.size w1 w2) : DI w hv sv lv w2 := by
  obtain ⟨x0, x1, x2, x3, x4, x5, x6, x7, x8, x9, x10, x11, x12, x13⟩ := h
  have hc : ∀ b o, b < w1.heap.size → w2.cell? ⟨b, o, none⟩ = w1.cell? ⟨b, o, none⟩ := fun b o h => hb.cell (p := ⟨b, o, none⟩) h
  have hf : ∀ b o, b < w1.heap.size → w2.frozen? ⟨b, o, none⟩ = w1.frozen? ⟨b, o, none⟩ := fun b o h => hb.frozen (p := ⟨b, o, none⟩) h
  have hz := hb.size
  exact ⟨x0.trans (hb.mono (by omega)), by rw [hc _ _ (by omega)]; exact x1, by rw [hc _ _ (by omega)]; exact x2, by rw [hc _ _ (by omega)]; exact x3,
    by rw [hf _ _ (by omega)]; exact x4, by rw [hf _ _ (by omega)]; exact x5, by rw [hf _ _ (by omega)]; exact x6, by rw [hc _ _ (by omega)]; exact x7, by rw [hc _ _ (by omega)]; exact x8, by rw [hc _ _ (by omega)]; exact x9,
    by rw [hf _ _ (by omega)]; exact x10, by rw [hf _ _ (by omega)]; exact x11, by rw [hf _ _ (by omega)]; exact x12, by omega⟩
theorem DI.putH {w : World} {hv sv lv : Nat} {w1 : World} (h : DI w hv sv lv w1) (v : Nat) : DI w v sv lv (w1.setCell ⟨w.heap.size, 0, none⟩ (.float .f64 v)) := by
  obtain ⟨x0, x1, x2, x3, x4, x5, x6, x7, x8, x9, x10, x11, x12, x13⟩ := h
  refine ⟨x0.setCell (Nat.le_refl _) _, ?_⟩
  simp [go_sem, x1, x2, x3, x4, x5, x6, x7, x8, x9, x10, x11, x12]
  omega
theorem DI.putS {w : World} {hv sv lv : Nat} {w1 : World} (h : DI w hv sv lv w1) (v : Nat) : DI w hv v lv (w1.setCell ⟨w.heap.size + 1, 0, none⟩ (.float .f64 v)) := by
  obtain ⟨x0, x1, x2, x3, x4, x5, x6, x7, x8, x9, x10, x11, x12, x13⟩ := h
  refine ⟨x0.setCell (by simp) _, ?_⟩
  simp [go_sem, x1, x2, x3, x4, x5, x6, x7, x8, x9, x10, x11, x12]
  omega
theorem DI.putL {w : World} {hv sv lv : Nat} {w1 : World} (h : DI w hv sv lv w1) (v : Nat) : DI w hv sv v (w1.setCell ⟨w.heap.size + 1 + 1, 0, none⟩ (.float .f64 v)) := by
  obtain ⟨x0, x1, x2, x3, x4, x5, x6, x7, x8, x9, x10, x11, x12, x13⟩ := h
  refine ⟨x0.setCell (by simp; omega) _, ?_⟩
  simp [go_sem, x1, x2, x3, x4, x5, x6, x7, x8, x9, x10, x11, x12]
  omega
theorem DI.start (w : World) (h s l : Nat) : DI w h s l ((((((w.alloc (.cells #[.float .f64 h] 28)).alloc (.cells #[.float .f64 s] 28)).alloc (.cells #[.float .f64 l] 28)).alloc (.cells #[.float .f64 0] 28)).alloc (.cells #[.float .f64 0] 28)).alloc (.cells #[.float .f64 0] 28)) := by
  refine ⟨((((((Below.refl _ w).alloc (Nat.le_refl _) _).alloc (by simp) _).alloc (by simp; omega) _).alloc (by simp; omega) _).alloc (by simp; omega) _).alloc (by simp; omega) _, ?_⟩
  simp [go_sem]

def Q3Post (Q : Nat → Prop) (w : World) (e : Ending) (w' : World) : Prop :=
  ∃ r0 r1 r2, Q r0 ∧ Q r1 ∧ Q r2 ∧ e = .returned (.tuple #[.agg #[.float .f64 r0], .agg #[.float .f64 r1], .agg #[.float .f64 r2]]) ∧ Below w.heap.size w w'

set_option maxRecDepth 100000 in
set_option maxHeartbeats 4000000 in
theorem hsl (h s l : Nat) (Q : Nat → Prop) (w : World) (hh : HslOK h s l Q) :
    Calls Try.prog 8 #[.agg #[.float .f64 h], .agg #[.float .f64 s], .agg #[.float .f64 l]] w (Q3Post Q w) := by
  have HH := Lib.hid hh
  clear hh
  have D0 := Lib.hid (DI.start w h s l)
  have hmf : ∀ (fn : Fn) (first cap : Array Value) (w : World), (Instr.makeFunc fn first cap).run Try.prog w = .ok (.func fn first cap) w := fun _ _ _ _ => rfl
  go_enter Try.func8, Try.ntmps8
  go_wp2_with fail
  refine (divConst h 4645040803167600640 (g1 h) _ (fo_some HH.out.o1)).mono ?_
  rintro e w1 ⟨rfl, hb1⟩
  have D1 := D0.out.step hb1
  clear hb1 D0
  have x1 := D1.2.1
  have x4 := D1.2.2.2.2.1
  have HD1 := Lib.hid (D1.putH (g1 h))
  clear D1
  go_upto_region 2 with fail
  clear x1 x4
  generalize w1.setCell ⟨w.heap.size, 0, none⟩ (.float .f64 (g1 h)) = W1 at *
  go_cut [15] (fun _ wx => DI w (g2 h) s l wx)
  case first =>
    have D1 := HD1.out.step (Below.refl _ _).drew
    have y1 := D1.2.1
    have y4 := D1.2.2.2.2.1
    have ST := Lib.hid (fun w1 w2 (hc : DI w (g1 h) s l w1) (hb : Below w1.heap.size w1 w2) => hc.step hb)
    go_region_with (first
      | (go_at_call 13; refine (floor (g1 h) _ HH.out.f1).mono ?_; rintro e w4 ⟨rfl, hb4⟩; have C4 := ST.out _ _ (by assumption) hb4; clear hb4; have z4 := C4.2.1; have z5 := C4.2.2.2.2.1)
      | (go_at_call 12; refine (sub (g1 h) (FL.floorw (g1 h)) (g2 h) _ (fo_some HH.out.o2)).mono ?_; rintro e w5 ⟨rfl, hb5⟩; have C5 := ST.out _ _ (by assumption) hb5; clear hb5; have z6 := C5.2.1; have z7 := C5.2.2.2.2.1))
    all_goals (go_wp2_with fail; go_meet; exact DI.putH (by assumption) _)
  case rest =>
    have D2 := Lib.hid hcut
    clear hcut HD1
    have x1 := D2.out.2.1
    go_wp2_with fail
    refine (mulConst (g2 h) 4645040803167600640 (g3 h) _ (fo_some HH.out.o3)).mono ?_
    rintro e w3 ⟨rfl, hb3⟩
    have D3 := D2.out.step hb3
    clear hb3 D2 x1
    have x1 := D3.2.1
    have x4 := D3.2.2.2.2.1
    have HD3 := Lib.hid (D3.putH (g3 h))
    have x2 := D3.2.2.1
    clear D3
    go_wp2_with fail
    generalize w3.setCell ⟨w.heap.size, 0, none⟩ (.float .f64 (g3 h)) = W3 at *
    clear x1 x4 x2
    refine (divConst s 4636737291354636288 (pct s) _ (fo_some HH.out.o4)).mono ?_
    rintro e w4 ⟨rfl, hb4⟩
    have D4 := HD3.out.step hb4
    clear hb4 HD3
    have x2 := D4.2.2.1
    have x3 := D4.2.2.2.1
    have x5 := D4.2.2.2.2.2.1
    have HD4 := Lib.hid (D4.putS (pct s))
    clear D4
    go_wp2_with fail
    generalize w4.setCell ⟨w.heap.size + 1, 0, none⟩ (.float .f64 (pct s)) = W4 at *
    clear x2 x3 x5
    refine (divConst l 4636737291354636288 (pct l) _ (fo_some HH.out.o5)).mono ?_
    rintro e w5 ⟨rfl, hb5⟩
    have D5 := HD4.out.step hb5
    clear hb5 HD4
    have x3 := D5.2.2.2.1
    have x6 := D5.2.2.2.2.2.2.1
    have HD5 := Lib.hid (D5.putL (pct l))
    clear D5
    go_wp2_with fail
    generalize w5.setCell ⟨w.heap.size + 1 + 1, 0, none⟩ (.float .f64 (pct l)) = W5 at *
    clear x3 x6
    have CLO := Lib.hid (fun (n : Nat) (hn : HueOK (g3 h) n) (wx : World) (hd : DI w (g3 h) (pct s) (pct l) wx) =>
      clo n (g3 h) (pct l) (pct s) w.heap.size Q wx hn HH.out.li (by have := hd.2.2.2.2.2.2.2.2.2.2.2.2.2; omega) hd.2.1 hd.2.2.2.1 hd.2.2.1)
    refine (CLO.out 0 HH.out.k0 W5 HD5.out).mono ?_
    rintro e w6 ⟨r0, hr0, rfl, hb6⟩
    have D6 := Lib.hid (HD5.out.step hb6)
    have R0 := Lib.hid hr0
    clear hb6 HD5 hr0
    go_wp2_with fail
    refine (CLO.out 4620693217682128896 HH.out.k8 w6 D6.out).mono ?_
    rintro e w7 ⟨r1, hr1, rfl, hb7⟩
    have D7 := Lib.hid (D6.out.step hb7)
    have R1 := Lib.hid hr1
    clear hb7 D6 hr1
    go_wp2_with fail
    refine (CLO.out 4616189618054758400 HH.out.k4 w7 D7.out).mono ?_
    rintro e w8 ⟨r2, hr2, rfl, hb8⟩
    have D8 := D7.out.step hb8
    have R2 := Lib.hid hr2
    clear hb8 D7 hr2
    obtain ⟨B8, -, -, -, -, -, -, c7, c8, c9, c10, c11, c12, -⟩ := D8
    go_wp2
    refine bodyPost_ret (v := .tuple #[.agg #[.float .f64 r0], .agg #[.float .f64 r1], .agg #[.float .f64 r2]]) (by simp [results, Try.results8, go_sem, c7, c8, c9]) rfl ⟨r0, r1, r2, R0.out, R1.out, R2.out, rfl, ?_⟩
    exact ((B8.setCell (by simp; omega) _).setCell (by simp; omega) _).setCell (by simp; omega) _
end Go.Proofs.Ytcmkehkgnnmofaa.F64
