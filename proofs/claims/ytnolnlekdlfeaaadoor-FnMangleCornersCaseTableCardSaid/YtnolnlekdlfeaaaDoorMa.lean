/- FnMangleCornersCaseTable: small functions for all eight kinds of token. -/
import Derived.Test.YtnolnlekdlfeaaaDoorJe
namespace Go.Proofs.YtnolnlekdlfeaaaDoor.ZT
open Go.RowKit Go.Proofs.YtnolnlekdlfeaaaDoor.TB
set_option linter.unusedVariables false
/-- The kind and the text of a token of code q (below 8). -/
def kq (q : Nat) : Int := if q = 3 ∨ q = 5 then 30 else if q = 6 then 29 else if q < 5 then 34 else 24
def tq (q : Nat) : ByteArray := if q = 0 then ⟨#[49, 37]⟩ else if q = 1 then ⟨#[50, 37]⟩ else if q = 2 then ⟨#[51, 37]⟩ else if q = 3 then ⟨#[48]⟩ else if q = 4 then ⟨#[53, 48, 37]⟩ else if q = 5 then ⟨#[49]⟩ else if q = 6 then ⟨#[97, 117, 116, 111]⟩ else ⟨#[47]⟩
theorem eight {q : Nat} (h : q < 8) : q = 0 ∨ q = 1 ∨ q = 2 ∨ q = 3 ∨ q = 4 ∨ q = 5 ∨ q = 6 ∨ q = 7 := by omega
set_option maxRecDepth 100000 in
set_option maxHeartbeats 4000000 in
theorem tok16q (c : Int) (q : Nat) (w : World) (hq : q < 8) (hc : c % 8 = (q : Int)) (h0 : 0 ≤ c) (h1 : c ≤ 255) : Calls Tryd.prog 16 #[.int .u8 c] w fun e w' => e = .returned (.agg #[.pointer none, .string (tq q), .int .i32 0, .int .u32 0, .int .u16 0, .int .u8 (kq q), .int .u8 0]) ∧ Below w.heap.size w w' := by
  have B0 := Lib.hid (fun (o : Obj) => show Below w.heap.size w (w.alloc o) from (Below.refl _ _).alloc (Nat.le_refl _) _)
  have hm : Int.tmod c 8 = (q : Int) := by rw [Int.tmod_eq_emod_of_nonneg h0]; exact hc
  clear hc
  rcases eight hq with rfl | rfl | rfl | rfl | rfl | rfl | rfl | rfl
  all_goals
    go_enter Tryd.func16, Tryd.ntmps16
    go_wp2
    refine bodyPost_ret (v := .agg #[.pointer none, .string (tq _), .int .i32 0, .int .u32 0, .int .u16 0, .int .u8 (kq _), .int .u8 0]) (by simp [results, Tryd.results16, go_sem, tq, kq]; done) rfl ⟨rfl, ?_⟩
    exact B0.out _
/-- The token of code q. -/
def tkq (q : Nat) : Value := .agg #[.pointer none, .string (tq q), .int .i32 0, .int .u32 0, .int .u16 0, .int .u8 (kq q), .int .u8 0]
set_option maxRecDepth 100000 in
set_option maxHeartbeats 4000000 in
theorem inc25q (gu q : Nat) (st : Int) (w : World) (hq : q < 7) (hu : Blk w gu 73 #[.string ⟨#[]⟩, .int .u8 st]) : Calls Tryd.prog 25 #[.pointer (some ⟨gu, 0, none⟩), .agg #[.pointer none, .string (tq q), .int .i32 0, .int .u32 0, .int .u16 0, .int .u8 (kq q), .int .u8 0]] w fun e w' => e = .returned (.tuple #[]) ∧ Blk w' gu 73 #[.string ⟨#[]⟩, .int .u8 (if q < 5 then st else 2)] ∧ Kept w.heap.size gu w w' := by
  have K0 := Lib.hid (fun (o : Obj) => show Kept w.heap.size gu w (w.alloc o) from (Kept.refl _ _ _).alloc (Nat.le_refl _) o)
  have U0 := Lib.hid (fun (o : Obj) => show Blk (w.alloc o) gu 73 #[.string ⟨#[]⟩, .int .u8 st] from hu.alloc o)
  have U1 := Lib.hid (fun (o : Obj) => show Blk ((w.setCell ⟨gu, 1, none⟩ (.int .u8 2)).alloc o) gu 73 #[.string ⟨#[]⟩, .int .u8 2] from (hu.set_ 1 (.int .u8 2)).alloc o)
  have K1 := Lib.hid (fun (o : Obj) => show Kept w.heap.size gu w ((w.setCell ⟨gu, 1, none⟩ (.int .u8 2)).alloc o) from ((Kept.refl _ _ _).setCell 1 _).alloc (by simp) o)
  have hlt := hu.lt
  have ne : ¬ gu = w.heap.size := by omega
  have ne2 : ¬ w.heap.size = gu := by omega
  have e1 : w.cell? ⟨gu, 1, none⟩ = some (.int .u8 st) := hu.cell 1
  have f1 : w.frozen? ⟨gu, 1, none⟩ = false := hu.frozen _
  clear hu
  rcases (by omega : q = 0 ∨ q = 1 ∨ q = 2 ∨ q = 3 ∨ q = 4 ∨ q = 5 ∨ q = 6) with rfl | rfl | rfl | rfl | rfl | rfl | rfl
  all_goals
    simp only [tq, kq]
    go_enter Tryd.func25, Tryd.ntmps25
    go_wp2
    first
      | refine bodyPost_end (results_none rfl _ _ _) rfl ?_
      | refine bodyPost_ret (results_none rfl _ _ _) rfl ?_
    first
      | exact ⟨rfl, U0.out _, K0.out _⟩
      | exact ⟨rfl, U1.out _, K1.out _⟩
end Go.Proofs.YtnolnlekdlfeaaaDoor.ZT
