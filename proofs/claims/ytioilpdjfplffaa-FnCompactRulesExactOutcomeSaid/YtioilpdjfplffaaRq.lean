/- Law 3, for every input in the frame's form. -/
import Derived.Test.YtioilpdjfplffaaRi
import Derived.ProofKit
import Derived.DataShut
namespace Go.Proofs.Ytioilpdjfplffaa.ZT
open Go.RowKit Go.Proofs.Ytioilpdjfplffaa.TB
set_option linter.unusedVariables false
theorem u16_bd {a : Int} (h : (Lit.int .u16 a).wf = true) : 0 ≤ a ∧ a < 65536 := by
  have h1 := (Lit.wf_int_iff .u16 a).1 h
  rw [show IntKind.u16.min = 0 from rfl, show IntKind.u16.max = 65535 from rfl] at h1
  omega
theorem law3_all (kk : Bool) (a ls idx toks taint : Int) (mw im : Bool) (ks : Int) (w : World) (w1 : (Lit.int .u16 a).wf = true) (w2 : (Lit.int .i32 ls).wf = true) (w3 : (Lit.int .u64 idx).wf = true) (w4 : (Lit.int .u16 toks).wf = true) (w5 : (Lit.int .u8 taint).wf = true) (w8 : (Lit.int .i32 ks).wf = true) :
    Calls Try.prog 3 #[.bool kk, .int .u16 a, .int .i32 ls, .int .u64 idx, .int .u16 toks, .int .u8 taint, .bool mw, .bool im, .int .i32 ks] w fun e w' => e = .returned (.bool true) ∧ Below w.heap.size w w' := by
  obtain ⟨h0, h1⟩ := u16_bd w1
  obtain ⟨n, rfl⟩ : ∃ n : Nat, a = n := ⟨a.toNat, by omega⟩
  by_cases h : n = 0 ∨ 4096 < n
  · exact law3_triv kk mw im n ls idx toks taint ks w h
  · exact law3 kk mw im n ls idx toks taint ks w (fun e => h (.inl e)) (fun e => h (.inr e))
end Go.Proofs.Ytioilpdjfplffaa.ZT
