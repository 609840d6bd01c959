/- The contracts of helpers.F64's methods: what each hands back, and that it only makes new memory. Written by gen_f64.py. -/
import Derived.Test.YtcaiehnihgcegaaProg
import Derived.WalkKit
import Derived.WalkSpells
import Derived.WalkLawsBesides
import Derived.Laws.FloatArith
import Derived.Laws.ResultCell
import Derived.Outline
import Derived.Below
import Derived.Lib.Hide
import Derived.Test.YtcaiehnihgcegaaFloor
import GoSem.Extern.MathFloor
namespace Go.Proofs.Ytcaiehnihgcegaa.F64
open Go.RowKit
theorem bld (x : Nat) (w : World) : (Instr.build 43 #[(0, .float .f64 x)]).run Try.prog w = .ok (.agg #[.float .f64 x]) w := run_build w 43 _ _ (by kernel_rfl)
theorem sto {P : Program} {w : World} {a : Addr} {m : Mode} (k : FloatKind) (n : Nat) : (store a (.float k n) m).run P w = stored P w a (.float k n) m := run_store P w a _ m rfl
theorem unary_negf (k : FloatKind) (b : Nat) : Op.unary .neg (.float k b) = pure (.float k (Op.negFloat k b)) := rfl
attribute [go_sem] bld sto unary_negf

theorem bcell {W w1 : World} (hb : Below W.heap.size W w1) : (∀ b o, b < W.heap.size → w1.cell? ⟨b, o, none⟩ = W.cell? ⟨b, o, none⟩) ∧ (∀ b o, b < W.heap.size → w1.frozen? ⟨b, o, none⟩ = W.frozen? ⟨b, o, none⟩) :=
  ⟨fun b o h => hb.cell (p := ⟨b, o, none⟩) h, fun b o h => hb.frozen (p := ⟨b, o, none⟩) h⟩

theorem newF64 (x : Nat) (w : World) :
    Calls Try.prog 23 #[.float .f64 x] w fun e w' => e = .returned (.agg #[.float .f64 x]) ∧ Below w.heap.size w w' := by
  go_enter Try.func23, Try.ntmps23
  go_wp2
  exact bodyPost_ret (v := .agg #[.float .f64 x]) (by simp [results, Try.results23, go_sem]) rfl ⟨rfl, (Below.refl _ _).alloc (Nat.le_refl _) _⟩

theorem value (x : Nat) (w : World) :
    Calls Try.prog 24 #[.agg #[.float .f64 x]] w fun e w' => e = .returned (.float .f64 x) ∧ Below w.heap.size w w' := by
  go_enter Try.func24, Try.ntmps24
  go_wp2
  go_ret
  exact ⟨rfl, (Below.refl _ _).alloc (Nat.le_refl _) _⟩

theorem addConst (x c r : Nat) (w : World) (h : floatBits .add .f64 x c = some r) :
    Calls Try.prog 34 #[.agg #[.float .f64 x], .float .f64 c] w fun e w' => e = .returned (.agg #[.float .f64 r]) ∧ Below w.heap.size w w' := by
  have hr := fun (t : TypeId) (w : World) => run_float_arith (P := Try.prog) w .add t .f64 x c r h
  clear h
  go_enter Try.func34, Try.ntmps34
  go_wp2_with fail
  clear hr
  refine (newF64 r _).mono ?_
  rintro e w1 ⟨rfl, hb⟩
  obtain ⟨hc, hf⟩ := bcell hb
  have hz : w.heap.size + 1 < w1.heap.size := by have := hb.size; simp at this; omega
  go_wp2
  refine bodyPost_ret (v := .agg #[.float .f64 r]) (by simp [results, Try.results34, go_sem, hc]) rfl ⟨rfl, ?_⟩
  exact ((((Below.refl _ _).alloc (Nat.le_refl _) _).alloc (by simp) _).trans (hb.mono (by simp; omega))).setCell (by simp) _

theorem add (x y r : Nat) (w : World) (h : floatBits .add .f64 x y = some r) :
    Calls Try.prog 36 #[.agg #[.float .f64 x], .agg #[.float .f64 y]] w fun e w' => e = .returned (.agg #[.float .f64 r]) ∧ Below w.heap.size w w' := by
  have hr := fun (t : TypeId) (w : World) => run_float_arith (P := Try.prog) w .add t .f64 x y r h
  clear h
  go_enter Try.func36, Try.ntmps36
  go_wp2_with fail
  clear hr
  refine (newF64 r _).mono ?_
  rintro e w1 ⟨rfl, hb⟩
  obtain ⟨hc, hf⟩ := bcell hb
  have hz : w.heap.size + 1 + 1 < w1.heap.size := by have := hb.size; simp at this; omega
  go_wp2
  refine bodyPost_ret (v := .agg #[.float .f64 r]) (by simp [results, Try.results36, go_sem, hc]) rfl ⟨rfl, ?_⟩
  exact (((((Below.refl _ _).alloc (Nat.le_refl _) _).alloc (by simp) _).alloc (by simp; omega) _).trans (hb.mono (by simp; omega))).setCell (by simp; omega) _

theorem subConst (x c r : Nat) (w : World) (h : floatBits .sub .f64 x c = some r) :
    Calls Try.prog 40 #[.agg #[.float .f64 x], .float .f64 c] w fun e w' => e = .returned (.agg #[.float .f64 r]) ∧ Below w.heap.size w w' := by
  have hr := fun (t : TypeId) (w : World) => run_float_arith (P := Try.prog) w .sub t .f64 x c r h
  clear h
  go_enter Try.func40, Try.ntmps40
  go_wp2_with fail
  clear hr
  refine (newF64 r _).mono ?_
  rintro e w1 ⟨rfl, hb⟩
  obtain ⟨hc, hf⟩ := bcell hb
  have hz : w.heap.size + 1 < w1.heap.size := by have := hb.size; simp at this; omega
  go_wp2
  refine bodyPost_ret (v := .agg #[.float .f64 r]) (by simp [results, Try.results40, go_sem, hc]) rfl ⟨rfl, ?_⟩
  exact ((((Below.refl _ _).alloc (Nat.le_refl _) _).alloc (by simp) _).trans (hb.mono (by simp; omega))).setCell (by simp) _

theorem sub (x y r : Nat) (w : World) (h : floatBits .sub .f64 x y = some r) :
    Calls Try.prog 37 #[.agg #[.float .f64 x], .agg #[.float .f64 y]] w fun e w' => e = .returned (.agg #[.float .f64 r]) ∧ Below w.heap.size w w' := by
  have hr := fun (t : TypeId) (w : World) => run_float_arith (P := Try.prog) w .sub t .f64 x y r h
  clear h
  go_enter Try.func37, Try.ntmps37
  go_wp2_with fail
  clear hr
  refine (newF64 r _).mono ?_
  rintro e w1 ⟨rfl, hb⟩
  obtain ⟨hc, hf⟩ := bcell hb
  have hz : w.heap.size + 1 + 1 < w1.heap.size := by have := hb.size; simp at this; omega
  go_wp2
  refine bodyPost_ret (v := .agg #[.float .f64 r]) (by simp [results, Try.results37, go_sem, hc]) rfl ⟨rfl, ?_⟩
  exact (((((Below.refl _ _).alloc (Nat.le_refl _) _).alloc (by simp) _).alloc (by simp; omega) _).trans (hb.mono (by simp; omega))).setCell (by simp; omega) _

theorem mulConst (x c r : Nat) (w : World) (h : floatBits .mul .f64 x c = some r) :
    Calls Try.prog 38 #[.agg #[.float .f64 x], .float .f64 c] w fun e w' => e = .returned (.agg #[.float .f64 r]) ∧ Below w.heap.size w w' := by
  have hr := fun (t : TypeId) (w : World) => run_float_arith (P := Try.prog) w .mul t .f64 x c r h
  clear h
  go_enter Try.func38, Try.ntmps38
  go_wp2_with fail
  clear hr
  refine (newF64 r _).mono ?_
  rintro e w1 ⟨rfl, hb⟩
  obtain ⟨hc, hf⟩ := bcell hb
  have hz : w.heap.size + 1 < w1.heap.size := by have := hb.size; simp at this; omega
  go_wp2
  refine bodyPost_ret (v := .agg #[.float .f64 r]) (by simp [results, Try.results38, go_sem, hc]) rfl ⟨rfl, ?_⟩
  exact ((((Below.refl _ _).alloc (Nat.le_refl _) _).alloc (by simp) _).trans (hb.mono (by simp; omega))).setCell (by simp) _

theorem mul (x y r : Nat) (w : World) (h : floatBits .mul .f64 x y = some r) :
    Calls Try.prog 35 #[.agg #[.float .f64 x], .agg #[.float .f64 y]] w fun e w' => e = .returned (.agg #[.float .f64 r]) ∧ Below w.heap.size w w' := by
  have hr := fun (t : TypeId) (w : World) => run_float_arith (P := Try.prog) w .mul t .f64 x y r h
  clear h
  go_enter Try.func35, Try.ntmps35
  go_wp2_with fail
  clear hr
  refine (newF64 r _).mono ?_
  rintro e w1 ⟨rfl, hb⟩
  obtain ⟨hc, hf⟩ := bcell hb
  have hz : w.heap.size + 1 + 1 < w1.heap.size := by have := hb.size; simp at this; omega
  go_wp2
  refine bodyPost_ret (v := .agg #[.float .f64 r]) (by simp [results, Try.results35, go_sem, hc]) rfl ⟨rfl, ?_⟩
  exact (((((Below.refl _ _).alloc (Nat.le_refl _) _).alloc (by simp) _).alloc (by simp; omega) _).trans (hb.mono (by simp; omega))).setCell (by simp; omega) _

theorem divConst (x c r : Nat) (w : World) (h : floatBits .quo .f64 x c = some r) :
    Calls Try.prog 33 #[.agg #[.float .f64 x], .float .f64 c] w fun e w' => e = .returned (.agg #[.float .f64 r]) ∧ Below w.heap.size w w' := by
  have hr := fun (t : TypeId) (w : World) => run_float_arith (P := Try.prog) w .quo t .f64 x c r h
  clear h
  go_enter Try.func33, Try.ntmps33
  go_wp2_with fail
  clear hr
  refine (newF64 r _).mono ?_
  rintro e w1 ⟨rfl, hb⟩
  obtain ⟨hc, hf⟩ := bcell hb
  have hz : w.heap.size + 1 < w1.heap.size := by have := hb.size; simp at this; omega
  go_wp2
  refine bodyPost_ret (v := .agg #[.float .f64 r]) (by simp [results, Try.results33, go_sem, hc]) rfl ⟨rfl, ?_⟩
  exact ((((Below.refl _ _).alloc (Nat.le_refl _) _).alloc (by simp) _).trans (hb.mono (by simp; omega))).setCell (by simp) _

theorem div (x y r : Nat) (w : World) (h : floatBits .quo .f64 x y = some r) :
    Calls Try.prog 41 #[.agg #[.float .f64 x], .agg #[.float .f64 y]] w fun e w' => e = .returned (.agg #[.float .f64 r]) ∧ Below w.heap.size w w' := by
  have hr := fun (t : TypeId) (w : World) => run_float_arith (P := Try.prog) w .quo t .f64 x y r h
  clear h
  go_enter Try.func41, Try.ntmps41
  go_wp2_with fail
  clear hr
  refine (newF64 r _).mono ?_
  rintro e w1 ⟨rfl, hb⟩
  obtain ⟨hc, hf⟩ := bcell hb
  have hz : w.heap.size + 1 + 1 < w1.heap.size := by have := hb.size; simp at this; omega
  go_wp2
  refine bodyPost_ret (v := .agg #[.float .f64 r]) (by simp [results, Try.results41, go_sem, hc]) rfl ⟨rfl, ?_⟩
  exact (((((Below.refl _ _).alloc (Nat.le_refl _) _).alloc (by simp) _).alloc (by simp; omega) _).trans (hb.mono (by simp; omega))).setCell (by simp; omega) _

theorem neg (x : Nat) (w : World) :
    Calls Try.prog 42 #[.agg #[.float .f64 x]] w fun e w' => e = .returned (.agg #[.float .f64 (Op.negFloat .f64 x)]) ∧ Below w.heap.size w w' := by
  go_enter Try.func42, Try.ntmps42
  go_wp2_with fail
  refine (newF64 _ _).mono ?_
  rintro e w1 ⟨rfl, hb⟩
  obtain ⟨hc, hf⟩ := bcell hb
  have hz : w.heap.size + 1 < w1.heap.size := by have := hb.size; simp at this; omega
  go_wp2
  refine bodyPost_ret (v := .agg #[.float .f64 (Op.negFloat .f64 x)]) (by simp [results, Try.results42, go_sem, hc]) rfl ⟨rfl, ?_⟩
  exact ((((Below.refl _ _).alloc (Nat.le_refl _) _).alloc (by simp) _).trans (hb.mono (by simp; omega))).setCell (by simp) _

theorem archFloor (x : Nat) (w : World) : (callFunc 47 #[.float .f64 x]).run Try.prog w = (((Extern.MathFloor.toIntegral "math.archFloor" .down #[.float .f64 x]) >>= fun v => pure (Next.value v)).run Try.prog w) := by kernel_rfl
theorem archFloor_fin {x : Nat} (hx : FL.Fin x) (w : World) : (callFunc 47 #[.float .f64 x]).run Try.prog w = .ok (.value (.float .f64 (FL.floorw x))) w := by
  obtain ⟨m, i, e⟩ := FL.read_fin hx
  have hd : FloatKind.f64.decode x = .number (x / 2 ^ 63 % 2 == 1) m i := e
  have he : FL.floorw x = FloatKind.f64.encode ((Ieee.Datum.number (x / 2 ^ 63 % 2 == 1) m i).integral .down) := by unfold FL.floorw; rw [e]; rfl
  have hi : Extern.MathFloor.toIntegral "math.archFloor" .down #[.float .f64 x] = pure (.float .f64 (FL.floorw x)) := by
    rw [he]
    conv =>
      lhs
      whnf
    rw [hd]
  rw [archFloor, hi]
  simp
theorem mathFloor (x : Nat) (w : World) (hx : FL.Fin x) : Calls Try.prog 46 #[.float .f64 x] w fun e w' => e = .returned (.float .f64 (FL.floorw x)) ∧ w = w' := by
  have h := fun w => archFloor_fin hx w
  clear hx
  go_enter Try.func46, Try.ntmps46
  go_wp2_with fail
  go_ret
  exact ⟨rfl, rfl⟩
theorem floor (x : Nat) (w : World) (hx : FL.Fin x) :
    Calls Try.prog 44 #[.agg #[.float .f64 x]] w fun e w' => e = .returned (.agg #[.float .f64 (FL.floorw x)]) ∧ Below w.heap.size w w' := by
  have HX := Lib.hid hx
  clear hx
  go_enter Try.func44, Try.ntmps44
  go_wp2_with fail
  refine (mathFloor x _ HX.out).mono ?_
  rintro e w1 ⟨rfl, rfl⟩
  go_wp2_with fail
  refine (newF64 _ _).mono ?_
  rintro e w1 ⟨rfl, hb⟩
  obtain ⟨hc, hf⟩ := bcell hb
  have hz : w.heap.size + 1 < w1.heap.size := by have := hb.size; simp at this; omega
  go_wp2
  refine bodyPost_ret (v := .agg #[.float .f64 (FL.floorw x)]) (by simp [results, Try.results44, go_sem, hc]) rfl ⟨rfl, ?_⟩
  exact ((((Below.refl _ _).alloc (Nat.le_refl _) _).alloc (by simp) _).trans (hb.mono (by simp; omega))).setCell (by simp) _

end Go.Proofs.Ytcaiehnihgcegaa.F64
