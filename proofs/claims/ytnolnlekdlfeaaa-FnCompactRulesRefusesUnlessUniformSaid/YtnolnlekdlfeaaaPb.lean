/- FnCompactRulesRefusesUnlessUniform: more small functions. -/
import Derived.Test.YtnolnlekdlfeaaaPa
namespace Go.Proofs.Ytnolnlekdlfeaaa.ZT
open Go.RowKit Go.Proofs.Ytnolnlekdlfeaaa.TB
set_option linter.unusedVariables false
/-- The tokens of the codes 0 to 4. -/
def kdT (c : Int) : Int := if c = 3 then 30 else 34
def txT (c : Int) : ByteArray := if c = 0 then ⟨#[49, 37]⟩ else if c = 1 then ⟨#[50, 37]⟩ else if c = 2 then ⟨#[51, 37]⟩ else if c = 3 then ⟨#[48]⟩ else ⟨#[53, 48, 37]⟩
set_option maxRecDepth 100000 in
set_option maxHeartbeats 2000000 in
theorem tok15 (c : Int) (w : World) (h0 : 0 ≤ c) (h1 : c < 5) : Calls Try.prog 15 #[.int .u8 c] w fun e w' => e = .returned (.agg #[.pointer none, .string (txT c), .int .i32 0, .int .u32 0, .int .u16 0, .int .u8 (kdT c), .int .u8 0]) ∧ Below w.heap.size w w' := by
  have B0 := Lib.hid (fun (o : Obj) => show Below w.heap.size w (w.alloc o) from (Below.refl _ _).alloc (Nat.le_refl _) _)
  rcases (by omega : c = 0 ∨ c = 1 ∨ c = 2 ∨ c = 3 ∨ c = 4) with rfl | rfl | rfl | rfl | rfl
  · go_enter Try.func15, Try.ntmps15
    go_wp2
    refine bodyPost_ret (v := .agg #[.pointer none, .string ⟨#[49, 37]⟩, .int .i32 0, .int .u32 0, .int .u16 0, .int .u8 34, .int .u8 0]) (by simp [results, Try.results15, go_sem]; done) rfl ⟨rfl, ?_⟩
    exact B0.out _
  · go_enter Try.func15, Try.ntmps15
    go_wp2
    refine bodyPost_ret (v := .agg #[.pointer none, .string ⟨#[50, 37]⟩, .int .i32 0, .int .u32 0, .int .u16 0, .int .u8 34, .int .u8 0]) (by simp [results, Try.results15, go_sem]; done) rfl ⟨rfl, ?_⟩
    exact B0.out _
  · go_enter Try.func15, Try.ntmps15
    go_wp2
    refine bodyPost_ret (v := .agg #[.pointer none, .string ⟨#[51, 37]⟩, .int .i32 0, .int .u32 0, .int .u16 0, .int .u8 34, .int .u8 0]) (by simp [results, Try.results15, go_sem]; done) rfl ⟨rfl, ?_⟩
    exact B0.out _
  · go_enter Try.func15, Try.ntmps15
    go_wp2
    refine bodyPost_ret (v := .agg #[.pointer none, .string ⟨#[48]⟩, .int .i32 0, .int .u32 0, .int .u16 0, .int .u8 30, .int .u8 0]) (by simp [results, Try.results15, go_sem]; done) rfl ⟨rfl, ?_⟩
    exact B0.out _
  · go_enter Try.func15, Try.ntmps15
    go_wp2
    refine bodyPost_ret (v := .agg #[.pointer none, .string ⟨#[53, 48, 37]⟩, .int .i32 0, .int .u32 0, .int .u16 0, .int .u8 34, .int .u8 0]) (by simp [results, Try.results15, go_sem]; done) rfl ⟨rfl, ?_⟩
    exact B0.out _
def KJ (gr gd gl j d : Nat) (l : Int) (wr w' : World) : Prop :=
  Below wr.heap.size wr w' ∧ gr < wr.heap.size ∧ gd < wr.heap.size ∧ gl < wr.heap.size ∧ w'.cell? ⟨gr, j * 2, none⟩ = some (.iface 57 (.pointer (some ⟨d, 0, none⟩))) ∧ w'.cell? ⟨gr, j * 2 + 1, none⟩ = some (.int .i32 l) ∧ w'.cell? ⟨gd, j, none⟩ = some (.pointer (some ⟨d, 0, none⟩)) ∧ w'.cell? ⟨gl, j, none⟩ = some (.int .i32 l)
theorem KJ.step {gr gd gl j d : Nat} {l : Int} {wr w1 w2 : World} (h : KJ gr gd gl j d l wr w1) (hb : Below w1.heap.size w1 w2) : KJ gr gd gl j d l wr w2 := by
  obtain ⟨h0, h1, h2, h3, x0, x1, x2, x3⟩ := h
  have e1 : gr < w1.heap.size := Nat.lt_of_lt_of_le h1 h0.size
  have e2 : gd < w1.heap.size := Nat.lt_of_lt_of_le h2 h0.size
  have e3 : gl < w1.heap.size := Nat.lt_of_lt_of_le h3 h0.size
  exact ⟨h0.trans (hb.mono h0.size), h1, h2, h3, (hb.cell e1).trans x0, (hb.cell e1).trans x1, (hb.cell e2).trans x2, (hb.cell e3).trans x3⟩
set_option maxRecDepth 100000 in
set_option maxHeartbeats 8000000 in
theorem kept12 (gr gd gl nr cr nd cd nl cl' j d : Nat) (l : Int) (w : World) (h : KJ gr gd gl j d l w w) (h1 : j < nr) (h2 : j < nd) (h3 : j < nl) :
    Calls Try.prog 12 #[.slice (some ⟨gr, 0, none⟩) nr cr, .slice (some ⟨gd, 0, none⟩) nd cd, .slice (some ⟨gl, 0, none⟩) nl cl', .int .i64 j] w fun e w' => e = .returned (.bool true) ∧ Below w.heap.size w w' := by
  have START := Lib.hid (h.step (Below.refl _ _).drew)
  have STEP := Lib.hid (fun w1 w2 (h : KJ gr gd gl j d l w w1) (hb : Below w1.heap.size w1 w2) => h.step hb)
  have q0 : (0 : Int) ≤ (j : Int) := by omega
  have q1 : (j : Int) < (nr : Int) := by omega
  have q2 : (j : Int) < (nd : Int) := by omega
  have q3 : (j : Int) < (nl : Int) := by omega
  obtain ⟨j40, h40⟩ : ∃ i, Try.prog.info? 67 = some i := Option.isSome_iff_exists.1 (by kernel_rfl)
  have eqp := fun (W : World) (a : Addr) => run_eql_ptr_same (P := Try.prog) W (tp := 57) (te := 67) a Try.underlying57 h40
  clear h h40
  go_enter Try.func12, Try.ntmps12
  go_wp2_with fail
  go_region_held3 (fun w' => Below w.heap.size w w' ∧ gr < w.heap.size ∧ gd < w.heap.size ∧ gl < w.heap.size ∧ w'.cell? ⟨gr, j * 2, none⟩ = some (.iface 57 (.pointer (some ⟨d, 0, none⟩))) ∧ w'.cell? ⟨gr, j * 2 + 1, none⟩ = some (.int .i32 l) ∧ w'.cell? ⟨gd, j, none⟩ = some (.pointer (some ⟨d, 0, none⟩)) ∧ w'.cell? ⟨gl, j, none⟩ = some (.int .i32 l))
    (first | assumption | exact START.out)
    (first | (go_at_call 13; refine (decl13 d l _).mono ?_; rintro e_ w9 ⟨rfl, hb9⟩; have hI := STEP.out _ _ (by assumption) hb9; clear hb9; unfold KJ at hI))
  all_goals
    go_wp2_with fail
    go_ret
    exact ⟨rfl, And.left (show KJ gr gd gl j d l w w9 by assumption)⟩
set_option maxRecDepth 100000 in
theorem bytes4 (A : Option Addr) (n cp : Nat) (im mw : Bool) (w : World) (a0 a1 a2 a3 b0 b1 b2 b3 c0 c1 c2 c3 d0 d1 d2 d3 : Value) (hn : n ≤ 9223372036854775807) :
    Calls Try.prog 4 #[.agg #[a0, a1, a2, a3], .agg #[b0, b1, b2, b3], .agg #[c0, c1, c2, c3], .agg #[d0, d1, d2, d3], .slice A n cp, .bool im, .bool mw] w fun e w' => (∃ bb, e = .returned (.bool bb)) ∧ Below w.heap.size w w' := by
  have B0 := Lib.hid (fun (o1 o2 o3 o4 : Obj) => show Below w.heap.size w ((((w.alloc o1).alloc o2).alloc o3).alloc o4) from ((((Below.refl _ _).alloc (Nat.le_refl _) _).alloc (by simp) _).alloc (by simp; omega) _).alloc (by simp; omega) _)
  go_enter Try.func4, Try.ntmps4
  go_wp2
  all_goals
    go_ret
    exact ⟨⟨_, rfl⟩, B0.out _ _ _ _⟩
/-- The wrapper of compactRules. -/
theorem wrap11 {g n c : Nat} {B : Option Addr} {ks kl : Int} {mw : Bool} {w : World} {R : World → Ending → World → Prop}
    (h : ∀ W, Below w.heap.size w W → W.heap.size = w.heap.size + 1 → Calls Try.prog 16 #[.pointer (some ⟨g, 0, none⟩), .slice B n c, .agg #[.int .i32 ks, .int .i32 kl], .bool mw] W fun e w' => e = .returned (.tuple #[]) ∧ R W e w') :
    Calls Try.prog 11 #[.pointer (some ⟨g, 0, none⟩), .slice B n c, .agg #[.int .i32 ks, .int .i32 kl], .bool mw] w fun e w' => e = .returned (.tuple #[]) ∧ ∃ W, Below w.heap.size w W ∧ W.heap.size = w.heap.size + 1 ∧ R W e w' := by
  have H := Lib.hid h
  clear h
  have B0 := Lib.hid (fun (o : Obj) => show Below w.heap.size w (w.alloc o) ∧ (w.alloc o).heap.size = w.heap.size + 1 from ⟨(Below.refl _ _).alloc (Nat.le_refl _) _, by simp⟩)
  go_enter Try.func11, Try.ntmps11
  go_wp2_with fail
  refine (H.out _ (B0.out _).1 (B0.out _).2).mono ?_
  rintro e w1 ⟨rfl, hr⟩
  have HR := Lib.hid hr
  clear hr
  go_wp2_with fail
  first
    | refine bodyPost_end (results_none rfl _ _ _) rfl ?_
    | refine bodyPost_ret (results_none rfl _ _ _) rfl ?_
  exact ⟨rfl, _, (B0.out _).1, (B0.out _).2, HR.out⟩
end Go.Proofs.Ytnolnlekdlfeaaa.ZT
