/- The contracts of helpers.F64's methods: what each hands back, and that it only makes new memory. Written by gen_f64.py. -/
import Derived.Test.YtnkpcjmmingkkaaDoorProg
import Derived.WalkKit
import Derived.WalkSpells
import Derived.WalkLawsBesides
import Derived.Laws.FloatArith
import Derived.Laws.ResultCell
import Derived.Outline
import Derived.Below
import Derived.Lib.Hide
namespace Go.Proofs.YtnkpcjmmingkkaaDoor.F64
open Go.RowKit
theorem bld (x : Nat) (w : World) : (Instr.build 29 #[(0, .float .f64 x)]).run Tryd.prog w = .ok (.agg #[.float .f64 x]) w := run_build w 29 _ _ (by kernel_rfl)
theorem sto {P : Program} {w : World} {a : Addr} {m : Mode} (k : FloatKind) (n : Nat) : (store a (.float k n) m).run P w = stored P w a (.float k n) m := run_store P w a _ m rfl
theorem unary_negf (k : FloatKind) (b : Nat) : Op.unary .neg (.float k b) = pure (.float k (Op.negFloat k b)) := rfl
attribute [go_sem] bld sto unary_negf

theorem bcell {W w1 : World} (hb : Below W.heap.size W w1) : (∀ b o, b < W.heap.size → w1.cell? ⟨b, o, none⟩ = W.cell? ⟨b, o, none⟩) ∧ (∀ b o, b < W.heap.size → w1.frozen? ⟨b, o, none⟩ = W.frozen? ⟨b, o, none⟩) :=
  ⟨fun b o h => hb.cell (p := ⟨b, o, none⟩) h, fun b o h => hb.frozen (p := ⟨b, o, none⟩) h⟩

theorem newF64 (x : Nat) (w : World) :
    Calls Tryd.prog 9 #[.float .f64 x] w fun e w' => e = .returned (.agg #[.float .f64 x]) ∧ Below w.heap.size w w' := by
  go_enter Tryd.func9, Tryd.ntmps9
  go_wp2
  exact bodyPost_ret (v := .agg #[.float .f64 x]) (by simp [results, Tryd.results9, go_sem]) rfl ⟨rfl, (Below.refl _ _).alloc (Nat.le_refl _) _⟩

theorem value (x : Nat) (w : World) :
    Calls Tryd.prog 10 #[.agg #[.float .f64 x]] w fun e w' => e = .returned (.float .f64 x) ∧ Below w.heap.size w w' := by
  go_enter Tryd.func10, Tryd.ntmps10
  go_wp2
  go_ret
  exact ⟨rfl, (Below.refl _ _).alloc (Nat.le_refl _) _⟩

theorem addConst (x c r : Nat) (w : World) (h : floatBits .add .f64 x c = some r) :
    Calls Tryd.prog 19 #[.agg #[.float .f64 x], .float .f64 c] w fun e w' => e = .returned (.agg #[.float .f64 r]) ∧ Below w.heap.size w w' := by
  have hr := fun (t : TypeId) (w : World) => run_float_arith (P := Tryd.prog) w .add t .f64 x c r h
  clear h
  go_enter Tryd.func19, Tryd.ntmps19
  go_wp2_with fail
  clear hr
  refine (newF64 r _).mono ?_
  rintro e w1 ⟨rfl, hb⟩
  obtain ⟨hc, hf⟩ := bcell hb
  have hz : w.heap.size + 1 < w1.heap.size := by have := hb.size; simp at this; omega
  go_wp2
  refine bodyPost_ret (v := .agg #[.float .f64 r]) (by simp [results, Tryd.results19, go_sem, hc]) rfl ⟨rfl, ?_⟩
  exact ((((Below.refl _ _).alloc (Nat.le_refl _) _).alloc (by simp) _).trans (hb.mono (by simp; omega))).setCell (by simp) _

theorem add (x y r : Nat) (w : World) (h : floatBits .add .f64 x y = some r) :
    Calls Tryd.prog 21 #[.agg #[.float .f64 x], .agg #[.float .f64 y]] w fun e w' => e = .returned (.agg #[.float .f64 r]) ∧ Below w.heap.size w w' := by
  have hr := fun (t : TypeId) (w : World) => run_float_arith (P := Tryd.prog) w .add t .f64 x y r h
  clear h
  go_enter Tryd.func21, Tryd.ntmps21
  go_wp2_with fail
  clear hr
  refine (newF64 r _).mono ?_
  rintro e w1 ⟨rfl, hb⟩
  obtain ⟨hc, hf⟩ := bcell hb
  have hz : w.heap.size + 1 + 1 < w1.heap.size := by have := hb.size; simp at this; omega
  go_wp2
  refine bodyPost_ret (v := .agg #[.float .f64 r]) (by simp [results, Tryd.results21, go_sem, hc]) rfl ⟨rfl, ?_⟩
  exact (((((Below.refl _ _).alloc (Nat.le_refl _) _).alloc (by simp) _).alloc (by simp; omega) _).trans (hb.mono (by simp; omega))).setCell (by simp; omega) _

theorem mulConst (x c r : Nat) (w : World) (h : floatBits .mul .f64 x c = some r) :
    Calls Tryd.prog 14 #[.agg #[.float .f64 x], .float .f64 c] w fun e w' => e = .returned (.agg #[.float .f64 r]) ∧ Below w.heap.size w w' := by
  have hr := fun (t : TypeId) (w : World) => run_float_arith (P := Tryd.prog) w .mul t .f64 x c r h
  clear h
  go_enter Tryd.func14, Tryd.ntmps14
  go_wp2_with fail
  clear hr
  refine (newF64 r _).mono ?_
  rintro e w1 ⟨rfl, hb⟩
  obtain ⟨hc, hf⟩ := bcell hb
  have hz : w.heap.size + 1 < w1.heap.size := by have := hb.size; simp at this; omega
  go_wp2
  refine bodyPost_ret (v := .agg #[.float .f64 r]) (by simp [results, Tryd.results14, go_sem, hc]) rfl ⟨rfl, ?_⟩
  exact ((((Below.refl _ _).alloc (Nat.le_refl _) _).alloc (by simp) _).trans (hb.mono (by simp; omega))).setCell (by simp) _

theorem mul (x y r : Nat) (w : World) (h : floatBits .mul .f64 x y = some r) :
    Calls Tryd.prog 16 #[.agg #[.float .f64 x], .agg #[.float .f64 y]] w fun e w' => e = .returned (.agg #[.float .f64 r]) ∧ Below w.heap.size w w' := by
  have hr := fun (t : TypeId) (w : World) => run_float_arith (P := Tryd.prog) w .mul t .f64 x y r h
  clear h
  go_enter Tryd.func16, Tryd.ntmps16
  go_wp2_with fail
  clear hr
  refine (newF64 r _).mono ?_
  rintro e w1 ⟨rfl, hb⟩
  obtain ⟨hc, hf⟩ := bcell hb
  have hz : w.heap.size + 1 + 1 < w1.heap.size := by have := hb.size; simp at this; omega
  go_wp2
  refine bodyPost_ret (v := .agg #[.float .f64 r]) (by simp [results, Tryd.results16, go_sem, hc]) rfl ⟨rfl, ?_⟩
  exact (((((Below.refl _ _).alloc (Nat.le_refl _) _).alloc (by simp) _).alloc (by simp; omega) _).trans (hb.mono (by simp; omega))).setCell (by simp; omega) _

end Go.Proofs.YtnkpcjmmingkkaaDoor.F64
