/- zzSameTokens, ZZasPlain, ZZasNot, zzNotOf. -/
import Derived.Test.YtpbdfdmocaojgaaMb
namespace Go.Proofs.Ytpbdfdmocaojgaa.MA
open Go.RowKit Go.Proofs.Ytpbdfdmocaojgaa.TB
set_option linter.unusedVariables false
def TrueB (w : World) (e : Ending) (w' : World) : Prop := e = .returned (.bool true) ∧ Below w.heap.size w w'
set_option maxRecDepth 100000 in
set_option maxHeartbeats 2000000 in
theorem same (A : Option Addr) (n c : Nat) (K : Nat → Int) (T : Nat → ByteArray) (W : Nat → Int) (w : World) (r : TR w A n (tc K T W)) (hA : A = none → n = 0) (hn : n ≤ 131072) :
    Calls Try.prog 21 #[.slice A n c, .slice A n c] w (TrueB w) := by
  have eq1 := fun (w : World) (a : Option Addr) (n c n' c' : Nat) => Lib.run_eql_slice_nil (P := Try.prog) w 25 53 a n c n' c' Try.underlying25
  have R := Lib.hid r
  clear r hA
  go_enter Try.func21, Try.ntmps21
  go_wp2
  go_loopw [5] (fun i wr => ∃ k : Nat, k ≤ n ∧ i = .int .i64 k ∧ Hid (Below w.heap.size w wr)) (fun i _ => n - (intOf i).toNat)
  case atStart => exact ⟨0, Nat.zero_le _, rfl, Lib.hid (Below.refl _ _)⟩
  case round =>
    obtain ⟨k, hk, rfl, BB⟩ := hrel
    by_cases hlt : k < n
    · obtain ⟨b, o, rfl, hb, hc⟩ := R.out (by omega)
      have z5 : wr.cell? ⟨b, o + k * 7 + 5, none⟩ = some (.int .u8 (K k)) := by rw [BB.out.cell hb]; exact hc k 5 hlt (by omega)
      have z1 : wr.cell? ⟨b, o + k * 7 + 1, none⟩ = some (.string (T k)) := by rw [BB.out.cell hb]; exact hc k 1 hlt (by omega)
      have q1 : (0 : Int) ≤ (k : Int) := by omega
      have q2 : (k : Int) < (n : Int) := by omega
      clear hc
      go_wp2
      go_quiet (fail)
      go_wp2
      go_roundw
      case rel => exact ⟨k + 1, by omega, by go_num, Lib.hid (below_drewN BB.out _)⟩
      case measure => simp [intOf]; omega
    · go_wp2
      go_ret
      exact ⟨rfl, BB.out⟩
theorem ta39 (p : Value) (w : World) : (Instr.typeAssert (.iface 39 p) 30 39 true).run Try.prog w = .ok (.tuple #[p, .bool true]) w := by
  simp [Instr.typeAssert, run_underlying Try.underlying39]
theorem ta62 (p : Value) (w : World) : (Instr.typeAssert (.iface 62 p) 30 62 true).run Try.prog w = .ok (.tuple #[p, .bool true]) w := by
  simp [Instr.typeAssert, run_underlying Try.underlying62]
def AsP (nm : ByteArray) (v : Value) (w : World) (e : Ending) (w' : World) : Prop := e = .returned (.tuple #[.string nm, v, .bool true]) ∧ Below w.heap.size w w'
set_option maxRecDepth 100000 in
set_option maxHeartbeats 2000000 in
theorem asPlain (st : Int) (g : Nat) (nm : ByteArray) (A : Option Addr) (n c : Nat) (w : World) (h : Blk w g 45 #[.string nm, .slice A n c]) :
    Calls Try.prog 20 #[.agg #[.int .i32 st, .iface 39 (.pointer (some ⟨g, 0, none⟩))]] w (AsP nm (.slice A n c) w) := by
  have B0 := Lib.hid (show Below w.heap.size w (w.alloc (.cells #[.int .i32 st, .iface 39 (.pointer (some ⟨g, 0, none⟩))] 32)) from (Below.refl _ _).alloc (Nat.le_refl _) _)
  have h1 := h.alloc (.cells #[.int .i32 st, .iface 39 (.pointer (some ⟨g, 0, none⟩))] 32)
  have c0 := h1.cell 0
  have c1 := h1.cell 1
  simp only [List.getElem?_toArray, List.getElem?_cons_zero, List.getElem?_cons_succ] at c0 c1
  clear h h1
  have TA := @ta39
  go_enter Try.func20, Try.ntmps20
  go_wp2
  generalize w.alloc (.cells #[.int .i32 st, .iface 39 (.pointer (some ⟨g, 0, none⟩))] 32) = W0 at *
  go_quiet (fail)
  go_wp2
  go_ret3
  exact ⟨rfl, below_drewN B0.out _⟩
end Go.Proofs.Ytpbdfdmocaojgaa.MA
