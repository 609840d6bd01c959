/- The contracts of helpers.F64's methods: what each hands back, and that it only makes new memory. Written by gen_f64.py. -/
import Derived.Test.YtcmkehkgnnmofaaProg
import Derived.WalkKit
import Derived.WalkSpells
import Derived.WalkLawsBesides
import Derived.Laws.FloatArith
import Derived.Laws.ResultCell
import Derived.Outline
import Derived.Below
import Derived.Lib.Hide
import Derived.Test.YtcmkehkgnnmofaaFloor
import GoSem.Extern.MathFloor
import Derived.Test.YtcmkehkgnnmofaaPick
namespace Go.Proofs.Ytcmkehkgnnmofaa.F64
open Go.RowKit
theorem bld (x : Nat) (w : World) : (Instr.build 28 #[(0, .float .f64 x)]).run Try.prog w = .ok (.agg #[.float .f64 x]) w := run_build w 28 _ _ (by kernel_rfl)
theorem sto {P : Program} {w : World} {a : Addr} {m : Mode} (k : FloatKind) (n : Nat) : (store a (.float k n) m).run P w = stored P w a (.float k n) m := run_store P w a _ m rfl
theorem unary_negf (k : FloatKind) (b : Nat) : Op.unary .neg (.float k b) = pure (.float k (Op.negFloat k b)) := rfl
attribute [go_sem] bld sto unary_negf

theorem bcell {W w1 : World} (hb : Below W.heap.size W w1) : (∀ b o, b < W.heap.size → w1.cell? ⟨b, o, none⟩ = W.cell? ⟨b, o, none⟩) ∧ (∀ b o, b < W.heap.size → w1.frozen? ⟨b, o, none⟩ = W.frozen? ⟨b, o, none⟩) :=
  ⟨fun b o h => hb.cell (p := ⟨b, o, none⟩) h, fun b o h => hb.frozen (p := ⟨b, o, none⟩) h⟩

theorem newF64 (x : Nat) (w : World) :
    Calls Try.prog 9 #[.float .f64 x] w fun e w' => e = .returned (.agg #[.float .f64 x]) ∧ Below w.heap.size w w' := by
  go_enter Try.func9, Try.ntmps9
  go_wp2
  exact bodyPost_ret (v := .agg #[.float .f64 x]) (by simp [results, Try.results9, go_sem]) rfl ⟨rfl, (Below.refl _ _).alloc (Nat.le_refl _) _⟩

theorem value (x : Nat) (w : World) :
    Calls Try.prog 10 #[.agg #[.float .f64 x]] w fun e w' => e = .returned (.float .f64 x) ∧ Below w.heap.size w w' := by
  go_enter Try.func10, Try.ntmps10
  go_wp2
  go_ret
  exact ⟨rfl, (Below.refl _ _).alloc (Nat.le_refl _) _⟩

theorem addConst (x c r : Nat) (w : World) (h : floatBits .add .f64 x c = some r) :
    Calls Try.prog 16 #[.agg #[.float .f64 x], .float .f64 c] w fun e w' => e = .returned (.agg #[.float .f64 r]) ∧ Below w.heap.size w w' := by
  have hr := fun (t : TypeId) (w : World) => run_float_arith (P := Try.prog) w .add t .f64 x c r h
  clear h
  go_enter Try.func16, Try.ntmps16
  go_wp2_with fail
  clear hr
  refine (newF64 r _).mono ?_
  rintro e w1 ⟨rfl, hb⟩
  obtain ⟨hc, hf⟩ := bcell hb
  have hz : w.heap.size + 1 < w1.heap.size := by have := hb.size; simp at this; omega
  go_wp2
  refine bodyPost_ret (v := .agg #[.float .f64 r]) (by simp [results, Try.results16, go_sem, hc]) rfl ⟨rfl, ?_⟩
  exact ((((Below.refl _ _).alloc (Nat.le_refl _) _).alloc (by simp) _).trans (hb.mono (by simp; omega))).setCell (by simp) _

theorem subConst (x c r : Nat) (w : World) (h : floatBits .sub .f64 x c = some r) :
    Calls Try.prog 22 #[.agg #[.float .f64 x], .float .f64 c] w fun e w' => e = .returned (.agg #[.float .f64 r]) ∧ Below w.heap.size w w' := by
  have hr := fun (t : TypeId) (w : World) => run_float_arith (P := Try.prog) w .sub t .f64 x c r h
  clear h
  go_enter Try.func22, Try.ntmps22
  go_wp2_with fail
  clear hr
  refine (newF64 r _).mono ?_
  rintro e w1 ⟨rfl, hb⟩
  obtain ⟨hc, hf⟩ := bcell hb
  have hz : w.heap.size + 1 < w1.heap.size := by have := hb.size; simp at this; omega
  go_wp2
  refine bodyPost_ret (v := .agg #[.float .f64 r]) (by simp [results, Try.results22, go_sem, hc]) rfl ⟨rfl, ?_⟩
  exact ((((Below.refl _ _).alloc (Nat.le_refl _) _).alloc (by simp) _).trans (hb.mono (by simp; omega))).setCell (by simp) _

theorem sub (x y r : Nat) (w : World) (h : floatBits .sub .f64 x y = some r) :
    Calls Try.prog 12 #[.agg #[.float .f64 x], .agg #[.float .f64 y]] w fun e w' => e = .returned (.agg #[.float .f64 r]) ∧ Below w.heap.size w w' := by
  have hr := fun (t : TypeId) (w : World) => run_float_arith (P := Try.prog) w .sub t .f64 x y r h
  clear h
  go_enter Try.func12, Try.ntmps12
  go_wp2_with fail
  clear hr
  refine (newF64 r _).mono ?_
  rintro e w1 ⟨rfl, hb⟩
  obtain ⟨hc, hf⟩ := bcell hb
  have hz : w.heap.size + 1 + 1 < w1.heap.size := by have := hb.size; simp at this; omega
  go_wp2
  refine bodyPost_ret (v := .agg #[.float .f64 r]) (by simp [results, Try.results12, go_sem, hc]) rfl ⟨rfl, ?_⟩
  exact (((((Below.refl _ _).alloc (Nat.le_refl _) _).alloc (by simp) _).alloc (by simp; omega) _).trans (hb.mono (by simp; omega))).setCell (by simp; omega) _

theorem mulConst (x c r : Nat) (w : World) (h : floatBits .mul .f64 x c = some r) :
    Calls Try.prog 14 #[.agg #[.float .f64 x], .float .f64 c] w fun e w' => e = .returned (.agg #[.float .f64 r]) ∧ Below w.heap.size w w' := by
  have hr := fun (t : TypeId) (w : World) => run_float_arith (P := Try.prog) w .mul t .f64 x c r h
  clear h
  go_enter Try.func14, Try.ntmps14
  go_wp2_with fail
  clear hr
  refine (newF64 r _).mono ?_
  rintro e w1 ⟨rfl, hb⟩
  obtain ⟨hc, hf⟩ := bcell hb
  have hz : w.heap.size + 1 < w1.heap.size := by have := hb.size; simp at this; omega
  go_wp2
  refine bodyPost_ret (v := .agg #[.float .f64 r]) (by simp [results, Try.results14, go_sem, hc]) rfl ⟨rfl, ?_⟩
  exact ((((Below.refl _ _).alloc (Nat.le_refl _) _).alloc (by simp) _).trans (hb.mono (by simp; omega))).setCell (by simp) _

theorem mul (x y r : Nat) (w : World) (h : floatBits .mul .f64 x y = some r) :
    Calls Try.prog 19 #[.agg #[.float .f64 x], .agg #[.float .f64 y]] w fun e w' => e = .returned (.agg #[.float .f64 r]) ∧ Below w.heap.size w w' := by
  have hr := fun (t : TypeId) (w : World) => run_float_arith (P := Try.prog) w .mul t .f64 x y r h
  clear h
  go_enter Try.func19, Try.ntmps19
  go_wp2_with fail
  clear hr
  refine (newF64 r _).mono ?_
  rintro e w1 ⟨rfl, hb⟩
  obtain ⟨hc, hf⟩ := bcell hb
  have hz : w.heap.size + 1 + 1 < w1.heap.size := by have := hb.size; simp at this; omega
  go_wp2
  refine bodyPost_ret (v := .agg #[.float .f64 r]) (by simp [results, Try.results19, go_sem, hc]) rfl ⟨rfl, ?_⟩
  exact (((((Below.refl _ _).alloc (Nat.le_refl _) _).alloc (by simp) _).alloc (by simp; omega) _).trans (hb.mono (by simp; omega))).setCell (by simp; omega) _

theorem divConst (x c r : Nat) (w : World) (h : floatBits .quo .f64 x c = some r) :
    Calls Try.prog 11 #[.agg #[.float .f64 x], .float .f64 c] w fun e w' => e = .returned (.agg #[.float .f64 r]) ∧ Below w.heap.size w w' := by
  have hr := fun (t : TypeId) (w : World) => run_float_arith (P := Try.prog) w .quo t .f64 x c r h
  clear h
  go_enter Try.func11, Try.ntmps11
  go_wp2_with fail
  clear hr
  refine (newF64 r _).mono ?_
  rintro e w1 ⟨rfl, hb⟩
  obtain ⟨hc, hf⟩ := bcell hb
  have hz : w.heap.size + 1 < w1.heap.size := by have := hb.size; simp at this; omega
  go_wp2
  refine bodyPost_ret (v := .agg #[.float .f64 r]) (by simp [results, Try.results11, go_sem, hc]) rfl ⟨rfl, ?_⟩
  exact ((((Below.refl _ _).alloc (Nat.le_refl _) _).alloc (by simp) _).trans (hb.mono (by simp; omega))).setCell (by simp) _

theorem neg (x : Nat) (w : World) :
    Calls Try.prog 18 #[.agg #[.float .f64 x]] w fun e w' => e = .returned (.agg #[.float .f64 (Op.negFloat .f64 x)]) ∧ Below w.heap.size w w' := by
  go_enter Try.func18, Try.ntmps18
  go_wp2_with fail
  refine (newF64 _ _).mono ?_
  rintro e w1 ⟨rfl, hb⟩
  obtain ⟨hc, hf⟩ := bcell hb
  have hz : w.heap.size + 1 < w1.heap.size := by have := hb.size; simp at this; omega
  go_wp2
  refine bodyPost_ret (v := .agg #[.float .f64 (Op.negFloat .f64 x)]) (by simp [results, Try.results18, go_sem, hc]) rfl ⟨rfl, ?_⟩
  exact ((((Below.refl _ _).alloc (Nat.le_refl _) _).alloc (by simp) _).trans (hb.mono (by simp; omega))).setCell (by simp) _

theorem archFloor (x : Nat) (w : World) : (callFunc 26 #[.float .f64 x]).run Try.prog w = (((Extern.MathFloor.toIntegral "math.archFloor" .down #[.float .f64 x]) >>= fun v => pure (Next.value v)).run Try.prog w) := by kernel_rfl
theorem archFloor_fin {x : Nat} (hx : FL.Fin x) (w : World) : (callFunc 26 #[.float .f64 x]).run Try.prog w = .ok (.value (.float .f64 (FL.floorw x))) w := by
  obtain ⟨m, i, e⟩ := FL.read_fin hx
  have hd : FloatKind.f64.decode x = .number (x / 2 ^ 63 % 2 == 1) m i := e
  have he : FL.floorw x = FloatKind.f64.encode ((Ieee.Datum.number (x / 2 ^ 63 % 2 == 1) m i).integral .down) := by unfold FL.floorw; rw [e]; rfl
  have hi : Extern.MathFloor.toIntegral "math.archFloor" .down #[.float .f64 x] = pure (.float .f64 (FL.floorw x)) := by
    rw [he]
    conv =>
      lhs
      whnf
    rw [hd]
  rw [archFloor, hi]
  simp
theorem mathFloor (x : Nat) (w : World) (hx : FL.Fin x) : Calls Try.prog 23 #[.float .f64 x] w fun e w' => e = .returned (.float .f64 (FL.floorw x)) ∧ w = w' := by
  have h := fun w => archFloor_fin hx w
  clear hx
  go_enter Try.func23, Try.ntmps23
  go_wp2_with fail
  go_ret
  exact ⟨rfl, rfl⟩
theorem floor (x : Nat) (w : World) (hx : FL.Fin x) :
    Calls Try.prog 13 #[.agg #[.float .f64 x]] w fun e w' => e = .returned (.agg #[.float .f64 (FL.floorw x)]) ∧ Below w.heap.size w w' := by
  have HX := Lib.hid hx
  clear hx
  go_enter Try.func13, Try.ntmps13
  go_wp2_with fail
  refine (mathFloor x _ HX.out).mono ?_
  rintro e w1 ⟨rfl, rfl⟩
  go_wp2_with fail
  refine (newF64 _ _).mono ?_
  rintro e w1 ⟨rfl, hb⟩
  obtain ⟨hc, hf⟩ := bcell hb
  have hz : w.heap.size + 1 < w1.heap.size := by have := hb.size; simp at this; omega
  go_wp2
  refine bodyPost_ret (v := .agg #[.float .f64 (FL.floorw x)]) (by simp [results, Try.results13, go_sem, hc]) rfl ⟨rfl, ?_⟩
  exact ((((Below.refl _ _).alloc (Nat.le_refl _) _).alloc (by simp) _).trans (hb.mono (by simp; omega))).setCell (by simp) _

theorem archMin (x y : Nat) (w : World) : (callFunc 28 #[.float .f64 x, .float .f64 y]).run Try.prog w = ((Extern.MathDim.pick "math.archMin" true .lt #[.float .f64 x, .float .f64 y]).run Try.prog w).andThen (fun v w => .ok (.value v) w) := by kernel_rfl
def MinR (x y r : Nat) : Prop := (r = x ∨ r = y) ∧ FL.rv r ≤ FL.rv x ∧ FL.rv r ≤ FL.rv y
def MinPost (x y : Nat) (w : World) (e : Ending) (w' : World) : Prop := ∃ r, MinR x y r ∧ e = .returned (.float .f64 r) ∧ w = w'
theorem mathMin (x y : Nat) (w : World) (hx : FL.Fin x) (hy : FL.Fin y) : Calls Try.prog 24 #[.float .f64 x, .float .f64 y] w (MinPost x y w) := by
  obtain ⟨r, e, h1, h2⟩ := FL.min_fin "math.archMin" hx hy
  have h : ∀ w, (callFunc 28 #[.float .f64 x, .float .f64 y]).run Try.prog w = .ok (.value (.float .f64 r)) w := by
    intro w; rw [archMin, e]; simp
  have HR := Lib.hid (show MinR x y r from ⟨h1, h2⟩)
  clear hx hy e h1 h2
  go_enter Try.func24, Try.ntmps24
  go_wp2_with fail
  go_ret
  exact ⟨r, HR.out, rfl, rfl⟩
def Min2Post (x y : Nat) (w : World) (e : Ending) (w' : World) : Prop := ∃ r, MinR x y r ∧ e = .returned (.agg #[.float .f64 r]) ∧ Below w.heap.size w w'
theorem min2 (x y : Nat) (w : World) (hx : FL.Fin x) (hy : FL.Fin y) :
    Calls Try.prog 17 #[.agg #[.float .f64 x], .agg #[.float .f64 y]] w (Min2Post x y w) := by
  have HX := Lib.hid (And.intro hx hy)
  clear hx hy
  go_enter Try.func17, Try.ntmps17
  go_wp2_with fail
  refine (mathMin x y _ HX.out.1 HX.out.2).mono ?_
  rintro e w1 ⟨r, hr, rfl, rfl⟩
  have HR := Lib.hid hr
  clear hr HX
  go_wp2_with fail
  refine (newF64 _ _).mono ?_
  rintro e w1 ⟨rfl, hb⟩
  obtain ⟨hc, hf⟩ := bcell hb
  have hz : w.heap.size + 1 + 1 < w1.heap.size := by have := hb.size; simp at this; omega
  go_wp2
  refine bodyPost_ret (v := .agg #[.float .f64 r]) (by simp [results, Try.results17, go_sem, hc]) rfl ⟨r, HR.out, rfl, ?_⟩
  exact (((((Below.refl _ _).alloc (Nat.le_refl _) _).alloc (by simp) _).alloc (by simp; omega) _).trans (hb.mono (by simp; omega))).setCell (by simp; omega) _

theorem archMax (x y : Nat) (w : World) : (callFunc 30 #[.float .f64 x, .float .f64 y]).run Try.prog w = ((Extern.MathDim.pick "math.archMax" false .gt #[.float .f64 x, .float .f64 y]).run Try.prog w).andThen (fun v w => .ok (.value v) w) := by kernel_rfl
def MaxR (x y r : Nat) : Prop := (r = x ∨ r = y) ∧ FL.rv x ≤ FL.rv r ∧ FL.rv y ≤ FL.rv r
def MaxPost (x y : Nat) (w : World) (e : Ending) (w' : World) : Prop := ∃ r, MaxR x y r ∧ e = .returned (.float .f64 r) ∧ w = w'
theorem mathMax (x y : Nat) (w : World) (hx : FL.Fin x) (hy : FL.Fin y) : Calls Try.prog 25 #[.float .f64 x, .float .f64 y] w (MaxPost x y w) := by
  obtain ⟨r, e, h1, h2⟩ := FL.max_fin "math.archMax" hx hy
  have h : ∀ w, (callFunc 30 #[.float .f64 x, .float .f64 y]).run Try.prog w = .ok (.value (.float .f64 r)) w := by
    intro w; rw [archMax, e]; simp
  have HR := Lib.hid (show MaxR x y r from ⟨h1, h2⟩)
  clear hx hy e h1 h2
  go_enter Try.func25, Try.ntmps25
  go_wp2_with fail
  go_ret
  exact ⟨r, HR.out, rfl, rfl⟩
def Max2Post (x y : Nat) (w : World) (e : Ending) (w' : World) : Prop := ∃ r, MaxR x y r ∧ e = .returned (.agg #[.float .f64 r]) ∧ Below w.heap.size w w'
theorem max2 (x y : Nat) (w : World) (hx : FL.Fin x) (hy : FL.Fin y) :
    Calls Try.prog 20 #[.agg #[.float .f64 x], .agg #[.float .f64 y]] w (Max2Post x y w) := by
  have HX := Lib.hid (And.intro hx hy)
  clear hx hy
  go_enter Try.func20, Try.ntmps20
  go_wp2_with fail
  refine (mathMax x y _ HX.out.1 HX.out.2).mono ?_
  rintro e w1 ⟨r, hr, rfl, rfl⟩
  have HR := Lib.hid hr
  clear hr HX
  go_wp2_with fail
  refine (newF64 _ _).mono ?_
  rintro e w1 ⟨rfl, hb⟩
  obtain ⟨hc, hf⟩ := bcell hb
  have hz : w.heap.size + 1 + 1 < w1.heap.size := by have := hb.size; simp at this; omega
  go_wp2
  refine bodyPost_ret (v := .agg #[.float .f64 r]) (by simp [results, Try.results20, go_sem, hc]) rfl ⟨r, HR.out, rfl, ?_⟩
  exact (((((Below.refl _ _).alloc (Nat.le_refl _) _).alloc (by simp) _).alloc (by simp; omega) _).trans (hb.mono (by simp; omega))).setCell (by simp; omega) _

end Go.Proofs.Ytcmkehkgnnmofaa.F64
