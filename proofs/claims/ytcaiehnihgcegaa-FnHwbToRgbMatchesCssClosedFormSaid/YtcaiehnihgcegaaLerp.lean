/- helpers.Lerp, for any operands. -/
import Derived.Test.YtcaiehnihgcegaaAny
import Derived.Deep.RegionHeld3
import Derived.StillTactics
import Derived.Deep.DeepCutAuto
namespace Go.Proofs.Ytcaiehnihgcegaa.F64
open Go.RowKit
/-- What Lerp(x, y, z) may answer. -/
def LerpR (x y z r : Nat) : Prop := ∃ d p, Res .sub y x d ∧ Res .mul d z p ∧ Res .add p x r
def Inv3 (w : World) (x y z : Nat) (w' : World) : Prop :=
  Below w.heap.size w w' ∧ w'.cell? ⟨w.heap.size, 0, none⟩ = some (.float .f64 x) ∧ w'.cell? ⟨w.heap.size + 1, 0, none⟩ = some (.float .f64 y) ∧ w'.cell? ⟨w.heap.size + 1 + 1, 0, none⟩ = some (.float .f64 z) ∧
  (w'.cell? ⟨w.heap.size + 1 + 1 + 1, 0, none⟩).isSome = true ∧ w'.frozen? ⟨w.heap.size + 1 + 1 + 1, 0, none⟩ = false ∧ w.heap.size + 1 + 1 + 1 < w'.heap.size
theorem Inv3.step {w : World} {x y z : Nat} {w1 w2 : World} (h : Inv3 w x y z w1) (hb : Below w1.heap.size w1 w2) : Inv3 w x y z w2 := by
  obtain ⟨hbw, x0, x1, x2, x3, x4, x5⟩ := h
  have hc : ∀ b o, b < w1.heap.size → w2.cell? ⟨b, o, none⟩ = w1.cell? ⟨b, o, none⟩ := fun b o h => hb.cell (p := ⟨b, o, none⟩) h
  have hf : ∀ b o, b < w1.heap.size → w2.frozen? ⟨b, o, none⟩ = w1.frozen? ⟨b, o, none⟩ := fun b o h => hb.frozen (p := ⟨b, o, none⟩) h
  have hz := hb.size
  exact ⟨hbw.trans (hb.mono (by omega)), by rw [hc _ _ (by omega)]; exact x0, by rw [hc _ _ (by omega)]; exact x1, by rw [hc _ _ (by omega)]; exact x2,
    by rw [hc _ _ (by omega)]; exact x3, by rw [hf _ _ (by omega)]; exact x4, by omega⟩
theorem Inv3.set {w : World} {x y z : Nat} {w1 : World} {v : Value} (h : Inv3 w x y z w1) : Inv3 w x y z (w1.setCell ⟨w.heap.size + 1 + 1 + 1, 0, none⟩ v) := by
  obtain ⟨hbw, x0, x1, x2, x3, x4, x5⟩ := h
  obtain ⟨v3, h3⟩ := Option.isSome_iff_exists.1 x3
  refine ⟨hbw.setCell (by simp; omega) _, ?_⟩
  simp [go_sem, x0, x1, x2, h3, x4]
  omega
theorem Inv3.some {w : World} {x y z : Nat} {w1 : World} (h : Inv3 w x y z w1) : ∃ v, w1.cell? ⟨w.heap.size + 1 + 1 + 1, 0, none⟩ = Option.some v := Option.isSome_iff_exists.1 h.2.2.2.2.1


set_option maxRecDepth 100000 in
set_option maxHeartbeats 2000000 in
theorem lerp (x y z : Nat) (w : World) :
    Calls Try.prog 45 #[.agg #[.float .f64 x], .agg #[.float .f64 y], .agg #[.float .f64 z]] w fun e w' => ∃ r, LerpR x y z r ∧ e = .returned (.agg #[.float .f64 r]) ∧ Below w.heap.size w w' := by
  have START := Lib.hid (fun (o1 o2 o3 o4 : Obj) => show Below w.heap.size w ((((w.alloc o1).alloc o2).alloc o3).alloc o4).drew from
    (((((Below.refl _ w).alloc (Nat.le_refl _) o1).alloc (by simp) o2).alloc (by simp; omega) o3).alloc (by simp; omega) o4).drew)
  have STEP := Lib.hid (fun w1 w2 (h : Inv3 w x y z w1) (hb : Below w1.heap.size w1 w2) => h.step hb)
  go_enter Try.func45, Try.ntmps45
  go_wp2
  go_region_held3 (fun w' => Below w.heap.size w w' ∧ w'.cell? ⟨w.heap.size, 0, none⟩ = some (.float .f64 x) ∧ w'.cell? ⟨w.heap.size + 1, 0, none⟩ = some (.float .f64 y) ∧ w'.cell? ⟨w.heap.size + 1 + 1, 0, none⟩ = some (.float .f64 z) ∧ (w'.cell? ⟨w.heap.size + 1 + 1 + 1, 0, none⟩).isSome = true ∧ w'.frozen? ⟨w.heap.size + 1 + 1 + 1, 0, none⟩ = false ∧ w.heap.size + 1 + 1 + 1 < w'.heap.size)
    (first | assumption | exact Inv3.set (by assumption) | (refine ⟨START.out _ _ _ _, ?_⟩; go_simp; done))
    (first
      | (go_at_call 37; refine (subA _ _ _).mono ?_; rintro e w1 ⟨d, hd, rfl, hb⟩; have HD := Lib.hid hd; have hI := STEP.out _ _ (by assumption) hb; unfold Inv3 at hI; clear hb hd)
      | (go_at_call 35; refine (mulA _ _ _).mono ?_; rintro e w1 ⟨p, hp, rfl, hb⟩; have HP := Lib.hid hp; have hI := STEP.out _ _ (by assumption) hb; unfold Inv3 at hI; clear hb hp)
      | (go_at_call 36; refine (addA _ _ _).mono ?_; rintro e w1 ⟨r, hr, rfl, hb⟩; have HR := Lib.hid hr; have hI := STEP.out _ _ (by assumption) hb; obtain ⟨v4, hv4⟩ := hI.some; unfold Inv3 at hI; clear hb hr))
  go_wp2
  refine bodyPost_ret (v := .agg #[.float .f64 r]) (by simp [results, Try.results45, go_sem, hv4]) rfl ⟨r, ⟨d, p, HD.out, HP.out, HR.out⟩, rfl, ?_⟩
  exact And.left (show Inv3 w x y z _ by assumption)
end Go.Proofs.Ytcaiehnihgcegaa.F64
