/- zzKept: a rule that stands as it was. -/
import Derived.Test.YtnolnlekdlfeaaaDoorJd
import Derived.LaidEqlPtr
namespace Go.Proofs.YtnolnlekdlfeaaaDoor.ZT
open Go.RowKit Go.Proofs.YtnolnlekdlfeaaaDoor.TB
set_option linter.unusedVariables false
def KJ (gr gd gl j d : Nat) (l : Int) (wr w' : World) : Prop :=
  Below wr.heap.size wr w' ∧ gr < wr.heap.size ∧ gd < wr.heap.size ∧ gl < wr.heap.size ∧ w'.cell? ⟨gr, j * 2, none⟩ = some (.iface 25 (.pointer (some ⟨d, 0, none⟩))) ∧ w'.cell? ⟨gr, j * 2 + 1, none⟩ = some (.int .i32 l) ∧ w'.cell? ⟨gd, j, none⟩ = some (.pointer (some ⟨d, 0, none⟩)) ∧ w'.cell? ⟨gl, j, none⟩ = some (.int .i32 l)
theorem KJ.step {gr gd gl j d : Nat} {l : Int} {wr w1 w2 : World} (h : KJ gr gd gl j d l wr w1) (hb : Below w1.heap.size w1 w2) : KJ gr gd gl j d l wr w2 := by
  obtain ⟨h0, h1, h2, h3, x0, x1, x2, x3⟩ := h
  have e1 : gr < w1.heap.size := Nat.lt_of_lt_of_le h1 h0.size
  have e2 : gd < w1.heap.size := Nat.lt_of_lt_of_le h2 h0.size
  have e3 : gl < w1.heap.size := Nat.lt_of_lt_of_le h3 h0.size
  exact ⟨h0.trans (hb.mono h0.size), h1, h2, h3, (hb.cell e1).trans x0, (hb.cell e1).trans x1, (hb.cell e2).trans x2, (hb.cell e3).trans x3⟩
set_option maxRecDepth 100000 in
set_option maxHeartbeats 8000000 in
theorem kept8 (gr gd gl nr cr nd cd nl cl' j d : Nat) (l : Int) (w : World) (h : KJ gr gd gl j d l w w) (h1 : j < nr) (h2 : j < nd) (h3 : j < nl) :
    Calls Tryd.prog 8 #[.slice (some ⟨gr, 0, none⟩) nr cr, .slice (some ⟨gd, 0, none⟩) nd cd, .slice (some ⟨gl, 0, none⟩) nl cl', .int .i64 j] w fun e w' => e = .returned (.bool true) ∧ Below w.heap.size w w' := by
  have START := Lib.hid (h.step (Below.refl _ _).drew)
  have STEP := Lib.hid (fun w1 w2 (h : KJ gr gd gl j d l w w1) (hb : Below w1.heap.size w1 w2) => h.step hb)
  have q0 : (0 : Int) ≤ (j : Int) := by omega
  have q1 : (j : Int) < (nr : Int) := by omega
  have q2 : (j : Int) < (nd : Int) := by omega
  have q3 : (j : Int) < (nl : Int) := by omega
  obtain ⟨j40, h40⟩ : ∃ i, Tryd.prog.info? 40 = some i := Option.isSome_iff_exists.1 (by kernel_rfl)
  have eqp := fun (W : World) (a : Addr) => run_eql_ptr_same (P := Tryd.prog) W (tp := 25) (te := 40) a Tryd.underlying25 h40
  clear h h40
  go_enter Tryd.func8, Tryd.ntmps8
  go_wp2_with fail
  go_region_held3 (fun w' => Below w.heap.size w w' ∧ gr < w.heap.size ∧ gd < w.heap.size ∧ gl < w.heap.size ∧ w'.cell? ⟨gr, j * 2, none⟩ = some (.iface 25 (.pointer (some ⟨d, 0, none⟩))) ∧ w'.cell? ⟨gr, j * 2 + 1, none⟩ = some (.int .i32 l) ∧ w'.cell? ⟨gd, j, none⟩ = some (.pointer (some ⟨d, 0, none⟩)) ∧ w'.cell? ⟨gl, j, none⟩ = some (.int .i32 l))
    (first | assumption | exact START.out)
    (first | (go_at_call 11; refine (decl11 d l _).mono ?_; rintro e_ w9 ⟨rfl, hb9⟩; have hI := STEP.out _ _ (by assumption) hb9; clear hb9; unfold KJ at hI))
  all_goals
    go_wp2_with fail
    go_ret
    exact ⟨rfl, And.left (show KJ gr gd gl j d l w w9 by assumption)⟩
end Go.Proofs.YtnolnlekdlfeaaaDoor.ZT
