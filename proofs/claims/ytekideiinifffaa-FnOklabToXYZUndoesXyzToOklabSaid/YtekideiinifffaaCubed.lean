/- F64.Cubed: what it hands back. -/
import Derived.Test.YtekideiinifffaaMat
namespace Go.Proofs.Ytekideiinifffaa.F64
open Go.RowKit
def cub (x : Nat) : Nat := fo .mul (fo .mul x x) x
def cubOK (x : Nat) : Prop := ok .mul x x ∧ ok .mul (fo .mul x x) x

def CInv (w : World) (x : Nat) (w' : World) : Prop :=
  Below w.heap.size w w' ∧ w'.cell? ⟨w.heap.size, 0, none⟩ = some (.float .f64 x) ∧ (w'.cell? ⟨w.heap.size + 1, 0, none⟩).isSome = true ∧ w'.frozen? ⟨w.heap.size + 1, 0, none⟩ = false ∧ w.heap.size + 1 < w'.heap.size
theorem CInv.step {w : World} {x : Nat} {w1 w2 : World} (h : CInv w x w1) (hb : Below w1.heap.size w1 w2) : CInv w x w2 := by
  obtain ⟨hbw, x0, x1, x2, x3⟩ := h
  have hc : ∀ b o, b < w1.heap.size → w2.cell? ⟨b, o, none⟩ = w1.cell? ⟨b, o, none⟩ := fun b o h => hb.cell (p := ⟨b, o, none⟩) h
  have hf : ∀ b o, b < w1.heap.size → w2.frozen? ⟨b, o, none⟩ = w1.frozen? ⟨b, o, none⟩ := fun b o h => hb.frozen (p := ⟨b, o, none⟩) h
  have hz := hb.size
  exact ⟨hbw.trans (hb.mono (by omega)), by rw [hc _ _ (by omega)]; exact x0, by rw [hc _ _ (by omega)]; exact x1, by rw [hf _ _ (by omega)]; exact x2, by omega⟩
theorem CInv.set {w : World} {x : Nat} {w1 : World} {v : Value} (h : CInv w x w1) : CInv w x (w1.setCell ⟨w.heap.size + 1, 0, none⟩ v) := by
  obtain ⟨hbw, x0, x1, x2, x3⟩ := h
  obtain ⟨v3, h3⟩ := Option.isSome_iff_exists.1 x1
  refine ⟨hbw.setCell (by simp) _, ?_⟩
  simp [go_sem, x0, h3, x2]
  omega
theorem CInv.some {w : World} {x : Nat} {w1 : World} (h : CInv w x w1) : ∃ v, w1.cell? ⟨w.heap.size + 1, 0, none⟩ = Option.some v := Option.isSome_iff_exists.1 h.2.2.1

set_option maxRecDepth 100000 in
set_option maxHeartbeats 2000000 in
theorem cubed (x : Nat) (w : World) (hx : cubOK x) :
    Calls Try.prog 20 #[.agg #[.float .f64 x]] w fun e w' => e = .returned (.agg #[.float .f64 (cub x)]) ∧ Below w.heap.size w w' := by
  have HX := Lib.hid hx
  clear hx
  have START := Lib.hid (fun (o1 o2 : Obj) => show Below w.heap.size w ((w.alloc o1).alloc o2).drew from (((Below.refl _ w).alloc (Nat.le_refl _) o1).alloc (by simp) o2).drew)
  have STEP := Lib.hid (fun w1 w2 (h : CInv w x w1) (hb : Below w1.heap.size w1 w2) => h.step hb)
  have tok1 : True := trivial
  go_enter Try.func20, Try.ntmps20
  go_wp2
  go_region_held3 (fun w' => Below w.heap.size w w' ∧ w'.cell? ⟨w.heap.size, 0, none⟩ = some (.float .f64 x) ∧ (w'.cell? ⟨w.heap.size + 1, 0, none⟩).isSome = true ∧ w'.frozen? ⟨w.heap.size + 1, 0, none⟩ = false ∧ w.heap.size + 1 < w'.heap.size)
    (first | assumption | exact CInv.set (by assumption) | (refine ⟨START.out _ _, ?_⟩; go_simp; done))
    (first
      | (go_at_call 24; have _t := tok1; refine (mul x x _ _ (fo_some HX.out.1)).mono ?_; rintro e w1 ⟨rfl, hb⟩; have hI := STEP.out _ _ (by assumption) hb; unfold CInv at hI; clear hb tok1)
      | (go_at_call 24; refine (mul (fo .mul x x) x _ _ (fo_some HX.out.2)).mono ?_; rintro e w1 ⟨rfl, hb⟩; have hI := STEP.out _ _ (by assumption) hb; obtain ⟨v4, hv4⟩ := hI.some; unfold CInv at hI; clear hb))
  go_wp2
  refine bodyPost_ret (v := .agg #[.float .f64 (cub x)]) (by simp [results, Try.results20, go_sem, hv4]; rfl) rfl ⟨rfl, ?_⟩
  exact And.left (show CInv w x _ by assumption)
end Go.Proofs.Ytekideiinifffaa.F64
