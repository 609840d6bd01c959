/- FnRemoveColorInterpolationIgnoresCase: the law as the frame hands it. -/
import Derived.Test.YtbdmbknehfjoaaaDoorKj
namespace Go.Proofs.YtbdmbknehfjoaaaDoor.ZT
open Go.RowKit Go.Proofs.YtbdmbknehfjoaaaDoor.TB
set_option linter.unusedVariables false
theorem u8_wf {z : Int} (h : (Lit.int .u8 z).wf = true) : 0 ≤ z ∧ z ≤ 255 := by
  simp [Lit.wf] at h
  have e1 : IntKind.u8.min = 0 := by decide
  have e2 : IntKind.u8.max = 255 := by decide
  rw [e1, e2] at h
  omega
theorem law3f (A1 : Option Addr) (n1 c1 : Nat) (z1 : Nat → Int) (A2 : Option Addr) (n2 c2 : Nat) (T : Nat → ByteArray) (A3 : Option Addr) (n3 c3 : Nat) (z3 : Nat → Int) (w : World)
    (r1 : 0 < n1 → ∃ b o, A1 = some ⟨b, o, none⟩ ∧ b < w.heap.size ∧ ∀ i, i < n1 → w.cell? ⟨b, o + i, none⟩ = some (.int .u8 (z1 i))) (m1 : A1 = none → n1 = 0) (h1 : n1 ≤ maxLen) (f1 : ∀ i, i < n1 → (Lit.int .u8 (z1 i)).wf = true)
    (r2 : 0 < n2 → ∃ b o, A2 = some ⟨b, o, none⟩ ∧ b < w.heap.size ∧ ∀ i, i < n2 → w.cell? ⟨b, o + i, none⟩ = some (.string (T i))) (m2 : A2 = none → n2 = 0) (h2 : n2 ≤ maxLen) (f2 : ∀ i, i < n2 → (T i).size ≤ maxLen)
    (r3 : 0 < n3 → ∃ b o, A3 = some ⟨b, o, none⟩ ∧ b < w.heap.size ∧ ∀ i, i < n3 → w.cell? ⟨b, o + i, none⟩ = some (.int .u8 (z3 i))) (m3 : A3 = none → n3 = 0) (h3 : n3 ≤ maxLen) (f3 : ∀ i, i < n3 → (Lit.int .u8 (z3 i)).wf = true) :
    Calls Tryd.prog 3 #[.slice A1 n1 c1, .slice A2 n2 c2, .slice A3 n3 c3] w fun e w' => e = .returned (.bool true) ∧ Below w.heap.size w w' :=
  law3 A1 A2 A3 n1 n2 n3 c1 c2 c3 z1 z3 T w r1 r2 r3 h1 h2 h3 m1 m2 m3 (fun i hi => u8_wf (f1 i hi)) (fun i hi => u8_wf (f3 i hi))
end Go.Proofs.YtbdmbknehfjoaaaDoor.ZT
