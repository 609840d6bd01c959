/- Segments of the inputs; the shorthand's wrapper. -/
import Derived.Test.YtcmdokiicicghaaDoorIc
namespace Go.Proofs.YtcmdokiicicghaaDoor.WA
open Go Go.RowKit Go.Lib Go.Proofs.YtcmdokiicicghaaDoor.MP Go.Proofs.YtcmdokiicicghaaDoor.SY Go.Proofs.YtcmdokiicicghaaDoor.LO Go.Proofs.YtcmdokiicicghaaDoor.TB Go.Proofs.YtcmdokiicicghaaDoor.OW
set_option linter.unusedVariables false
theorem size8 (w : World) : (sizeOf (Program.elem Tryd.prog 24)).run Tryd.prog w = .ok 1 w := by kernel_rfl
theorem sizeS (w : World) : (sizeOf (Program.elem Tryd.prog 25)).run Tryd.prog w = .ok 1 w := by kernel_rfl
theorem seg8 {w0 : World} {A : Option Addr} {n c a e : Nat} {z : Nat → Int} (h : BR w0 A n z) (hae : a ≤ e) (hen : e ≤ n) (hnc : n ≤ c) :
    ∃ SA, (∀ w, (Instr.slice 24 (.slice A n c) (some (.int .i64 a)) (some (.int .i64 e)) none).run Tryd.prog w = .ok (.slice SA (e - a) (c - a)) w) ∧ BR w0 SA (e - a) (fun j => z (a + j)) := by
  refine ⟨if c = a then A else A.map (·.add (a * 1)), fun w => ?_, ?_⟩
  · rw [run_slice_lh w 24 A n c (by kernel_rfl) .i64 .i64 a e (by omega) (by omega) (by omega), size8]
    simp [Result.andThen, sliced]
  · intro h0
    obtain ⟨b, o, rfl, hb, hc⟩ := h (by omega)
    rw [if_neg (by omega)]
    refine ⟨b, o + a, by simp [Addr.add_mid], hb, fun i hi => ?_⟩
    rw [Nat.add_assoc]
    exact hc (a + i) (by omega)
theorem segS {w0 : World} {A : Option Addr} {n c a e : Nat} {z : Nat → ByteArray} (h : SR w0 A n z) (hae : a ≤ e) (hen : e ≤ n) (hnc : n ≤ c) :
    ∃ SA, (∀ w, (Instr.slice 25 (.slice A n c) (some (.int .i64 a)) (some (.int .i64 e)) none).run Tryd.prog w = .ok (.slice SA (e - a) (c - a)) w) ∧ SR w0 SA (e - a) (fun j => z (a + j)) := by
  refine ⟨if c = a then A else A.map (·.add (a * 1)), fun w => ?_, ?_⟩
  · rw [run_slice_lh w 25 A n c (by kernel_rfl) .i64 .i64 a e (by omega) (by omega) (by omega), sizeS]
    simp [Result.andThen, sliced]
  · intro h0
    obtain ⟨b, o, rfl, hb, hc⟩ := h (by omega)
    rw [if_neg (by omega)]
    refine ⟨b, o + a, by simp [Addr.add_mid], hb, fun i hi => ?_⟩
    rw [Nat.add_assoc]
    exact hc (a + i) (by omega)
section
variable {W0 w : World} {tb n pb mb : Nat} {ml : Bool} {K : Nat → Int} {T : Nat → ByteArray}
set_option maxRecDepth 100000 in
theorem zzPassS (hT : Tabs W0) (hS : St W0 w pb mb ml []) (hB : Tab w tb TT 7 n (tkc K T (fun _ => 0))) (htb : W0.heap.size ≤ tb) (hs : ∀ i, i < n → (T i).size ≤ 1048576) (hn : n ≤ 4096) :
    Calls Tryd.prog 21 #[.pointer (some ⟨pb, 0, none⟩), .slice (some ⟨tb, 0, none⟩) n n] w (PassP W0 w tb n pb mb ml (hit ml K T) K T) := by
  have H := Lib.hid (passS hT hS hB htb hs hn)
  clear hT hS hB hs
  go_enter Tryd.func21, Tryd.ntmps21
  go_wp2_with (
    go_at_call 34
    refine H.out.mono ?_
    rintro e w1 ⟨rfl, h1, h2, h3⟩
    have H1 := Lib.hid h1
    have H2 := Lib.hid h2
    have H3 := Lib.hid h3
    clear h1 h2 h3)
  go_end0
  exact ⟨rfl, H1.out, H2.out, H3.out⟩
end
/-- One segment, processed alone on a new parser. -/
structure Seg (w3 w : World) (ml : Bool) (K : Nat → Int) (T : Nat → ByteArray) (g m : Nat) : Prop where
  tab : Tab w g TT 7 m (tkp (hit ml K T) K T m)
  bel : Below w3.heap.size w3 w
/-- The texts' lengths: zzBytes of this law. -/
theorem code_ten (x : Int) (h0 : 0 ≤ x) (h1 : x ≤ 255) : kd (x % 5) = 10 ↔ x % 5 = 3 := by
  have h : x % 5 = 0 ∨ x % 5 = 1 ∨ x % 5 = 2 ∨ x % 5 = 3 ∨ x % 5 = 4 := by omega
  rcases h with h | h | h | h | h <;> rw [h] <;> simp [kd]
end Go.Proofs.YtcmdokiicicghaaDoor.WA
