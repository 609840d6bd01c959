/- helpers.Min3. -/
import Derived.Test.YtcmkehkgnnmofaaF64
import Derived.Deep.RegionHeld3
import Derived.StillTactics
namespace Go.Proofs.Ytcmkehkgnnmofaa.F64
open Go.RowKit
/-- The bits of a valid operation's result. -/
def fo (op : BinOp) (x y : Nat) : Nat := (floatBits op .f64 x y).getD 0
def ok (op : BinOp) (x y : Nat) : Prop := (floatBits op .f64 x y).isSome = true
theorem fo_some {op : BinOp} {x y : Nat} (h : ok op x y) : floatBits op .f64 x y = some (fo op x y) := by
  unfold ok at h; unfold fo
  cases hh : floatBits op .f64 x y with
  | none => rw [hh] at h; cases h
  | some r => rfl

def Min3R (x y z r : Nat) : Prop := ∃ q, MinR x y q ∧ MinR q z r
def Min3Post (x y z : Nat) (w : World) (e : Ending) (w' : World) : Prop := ∃ r, Min3R x y z r ∧ e = .returned (.agg #[.float .f64 r]) ∧ Below w.heap.size w w'
theorem MinR.fin {x y r : Nat} (h : MinR x y r) (hx : FL.Fin x) (hy : FL.Fin y) : FL.Fin r := by
  rcases h.1 with rfl | rfl
  · exact hx
  · exact hy

def Inv3 (w : World) (x y z : Nat) (w' : World) : Prop :=
  Below w.heap.size w w' ∧ w'.cell? ⟨w.heap.size, 0, none⟩ = some (.float .f64 x) ∧ w'.cell? ⟨w.heap.size + 1, 0, none⟩ = some (.float .f64 y) ∧ w'.cell? ⟨w.heap.size + 1 + 1, 0, none⟩ = some (.float .f64 z) ∧
  (w'.cell? ⟨w.heap.size + 1 + 1 + 1, 0, none⟩).isSome = true ∧ w'.frozen? ⟨w.heap.size + 1 + 1 + 1, 0, none⟩ = false ∧ w.heap.size + 1 + 1 + 1 < w'.heap.size
theorem Inv3.step {w : World} {x y z : Nat} {w1 w2 : World} (h : Inv3 w x y z w1) (hb : Below w1.heap.size w1 w2) : Inv3 w x y z w2 := by
  obtain ⟨hbw, x0, x1, x2, x3, x4, x5⟩ := h
  have hc : ∀ b o, b < w1.heap.size → w2.cell? ⟨b, o, none⟩ = w1.cell? ⟨b, o, none⟩ := fun b o h => hb.cell (p := ⟨b, o, none⟩) h
  have hf : ∀ b o, b < w1.heap.size → w2.frozen? ⟨b, o, none⟩ = w1.frozen? ⟨b, o, none⟩ := fun b o h => hb.frozen (p := ⟨b, o, none⟩) h
  have hz := hb.size
  exact ⟨hbw.trans (hb.mono (by omega)), by rw [hc _ _ (by omega)]; exact x0, by rw [hc _ _ (by omega)]; exact x1, by rw [hc _ _ (by omega)]; exact x2,
    by rw [hc _ _ (by omega)]; exact x3, by rw [hf _ _ (by omega)]; exact x4, by omega⟩
theorem Inv3.set {w : World} {x y z : Nat} {w1 : World} {v : Value} (h : Inv3 w x y z w1) : Inv3 w x y z (w1.setCell ⟨w.heap.size + 1 + 1 + 1, 0, none⟩ v) := by
  obtain ⟨hbw, x0, x1, x2, x3, x4, x5⟩ := h
  obtain ⟨v3, h3⟩ := Option.isSome_iff_exists.1 x3
  refine ⟨hbw.setCell (by simp; omega) _, ?_⟩
  simp [go_sem, x0, x1, x2, h3, x4]
  omega
theorem Inv3.some {w : World} {x y z : Nat} {w1 : World} (h : Inv3 w x y z w1) : ∃ v, w1.cell? ⟨w.heap.size + 1 + 1 + 1, 0, none⟩ = Option.some v := Option.isSome_iff_exists.1 h.2.2.2.2.1

set_option maxRecDepth 100000 in
set_option maxHeartbeats 2000000 in
theorem min3 (x y z : Nat) (w : World) (hx : FL.Fin x) (hy : FL.Fin y) (hz : FL.Fin z) :
    Calls Try.prog 21 #[.agg #[.float .f64 x], .agg #[.float .f64 y], .agg #[.float .f64 z]] w (Min3Post x y z w) := by
  have HX := Lib.hid (And.intro hx (And.intro hy hz))
  clear hx hy hz
  have START := Lib.hid (fun (o1 o2 o3 o4 : Obj) => show Below w.heap.size w ((((w.alloc o1).alloc o2).alloc o3).alloc o4).drew from
    (((((Below.refl _ w).alloc (Nat.le_refl _) o1).alloc (by simp) o2).alloc (by simp; omega) o3).alloc (by simp; omega) o4).drew)
  have STEP := Lib.hid (fun w1 w2 (h : Inv3 w x y z w1) (hb : Below w1.heap.size w1 w2) => h.step hb)
  have tok1 : True := trivial
  go_enter Try.func21, Try.ntmps21
  go_wp2
  go_region_held3 (fun w' => Below w.heap.size w w' ∧ w'.cell? ⟨w.heap.size, 0, none⟩ = some (.float .f64 x) ∧ w'.cell? ⟨w.heap.size + 1, 0, none⟩ = some (.float .f64 y) ∧ w'.cell? ⟨w.heap.size + 1 + 1, 0, none⟩ = some (.float .f64 z) ∧ (w'.cell? ⟨w.heap.size + 1 + 1 + 1, 0, none⟩).isSome = true ∧ w'.frozen? ⟨w.heap.size + 1 + 1 + 1, 0, none⟩ = false ∧ w.heap.size + 1 + 1 + 1 < w'.heap.size)
    (first | assumption | exact Inv3.set (by assumption) | (refine ⟨START.out _ _ _ _, ?_⟩; go_simp; done))
    (first
      | (go_at_call 24; have _t := tok1; refine (mathMin x y _ HX.out.1 HX.out.2.1).mono ?_; rintro e w1 ⟨q, hq, rfl, rfl⟩; have HQ := Lib.hid hq; clear hq tok1)
      | (go_at_call 24; refine (mathMin _ z _ (HQ.out.fin HX.out.1 HX.out.2.1) HX.out.2.2).mono ?_; rintro e w1 ⟨r, hr, rfl, rfl⟩; have HR := Lib.hid hr; clear hr)
      | (go_at_call 9; refine (newF64 _ _).mono ?_; rintro e w1 ⟨rfl, hb⟩; have hI := STEP.out _ _ (by assumption) hb; obtain ⟨v4, hv4⟩ := hI.some; unfold Inv3 at hI; clear hb))
  go_wp2
  refine bodyPost_ret (v := .agg #[.float .f64 r]) (by simp [results, Try.results21, go_sem, hv4]) rfl ⟨r, ⟨q, HQ.out, HR.out⟩, rfl, ?_⟩
  exact And.left (show Inv3 w x y z _ by assumption)
end Go.Proofs.Ytcmkehkgnnmofaa.F64
