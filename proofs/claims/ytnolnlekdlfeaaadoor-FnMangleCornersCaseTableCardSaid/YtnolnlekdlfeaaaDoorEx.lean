/- expandTokenQuad: what it answers. Printed by gen_expand.py. -/
import Derived.Test.YtnolnlekdlfeaaaDoorTq
namespace Go.Proofs.YtnolnlekdlfeaaaDoor.ZT
open Go.RowKit Go.Proofs.YtnolnlekdlfeaaaDoor.TB
set_option linter.unusedVariables false
def num (k : Int) : Bool := k == 30 || k == 34 || k == 26
theorem num31 (k : Int) (w : World) : Calls Tryd.prog 24 #[.int .u8 k] w fun e w' => e = .returned (.bool (num k)) ∧ w = w' := by
  unfold num
  cases h1 : (k == 30)
  · cases h2 : (k == 34)
    · go_enter Tryd.func24, Tryd.ntmps24
      go_wp2
      go_ret
      exact ⟨by simp, rfl⟩
    · go_enter Tryd.func24, Tryd.ntmps24
      go_wp2
      go_ret
      exact ⟨by simp, rfl⟩
  · go_enter Tryd.func24, Tryd.ntmps24
    go_wp2
    go_ret
    exact ⟨by simp, rfl⟩
def okP (s : ByteArray) (k : Int) (t : ByteArray) : Prop := num k = true ∨ (k = 29 ∧ ¬ s.toList = [] ∧ t.toList = s.toList)
def okAll (n : Nat) (s : ByteArray) (K : Nat → Int) (T : Nat → ByteArray) : Prop := 1 ≤ n ∧ n ≤ 4 ∧ ∀ i, i < n → okP s (K i) (T i)
def ExpP (n : Nat) (s : ByteArray) (K : Nat → Int) (T : Nat → ByteArray) (W L : Nat → Int) (w : World) (e : Ending) (w' : World) : Prop :=
  ((okAll n s K T ∧ e = .returned (.tuple #[.agg (q28 K T W L (sel n 0) (sel n 1) (sel n 2) (sel n 3)), .bool true])) ∨ (¬ okAll n s K T ∧ e = .returned (.tuple #[.agg z28, .bool false]))) ∧ Below w.heap.size w w'
set_option maxRecDepth 100000 in
set_option maxHeartbeats 1000000 in
theorem put28 {w : World} {g : Nat} (h : Blk w g 86 z28) (x0 x1 x2 x3 x4 x5 x6 x7 x8 x9 x10 x11 x12 x13 x14 x15 x16 x17 x18 x19 x20 x21 x22 x23 x24 x25 x26 x27 : Value) : Blk ((((((((((((((((((((((((((((w.setCell ⟨g, 0, none⟩ x0).setCell ⟨g, 1, none⟩ x1).setCell ⟨g, 2, none⟩ x2).setCell ⟨g, 3, none⟩ x3).setCell ⟨g, 4, none⟩ x4).setCell ⟨g, 5, none⟩ x5).setCell ⟨g, 6, none⟩ x6).setCell ⟨g, 7, none⟩ x7).setCell ⟨g, 8, none⟩ x8).setCell ⟨g, 9, none⟩ x9).setCell ⟨g, 10, none⟩ x10).setCell ⟨g, 11, none⟩ x11).setCell ⟨g, 12, none⟩ x12).setCell ⟨g, 13, none⟩ x13).setCell ⟨g, 14, none⟩ x14).setCell ⟨g, 15, none⟩ x15).setCell ⟨g, 16, none⟩ x16).setCell ⟨g, 17, none⟩ x17).setCell ⟨g, 18, none⟩ x18).setCell ⟨g, 19, none⟩ x19).setCell ⟨g, 20, none⟩ x20).setCell ⟨g, 21, none⟩ x21).setCell ⟨g, 22, none⟩ x22).setCell ⟨g, 23, none⟩ x23).setCell ⟨g, 24, none⟩ x24).setCell ⟨g, 25, none⟩ x25).setCell ⟨g, 26, none⟩ x26).setCell ⟨g, 27, none⟩ x27) g 86 #[x0, x1, x2, x3, x4, x5, x6, x7, x8, x9, x10, x11, x12, x13, x14, x15, x16, x17, x18, x19, x20, x21, x22, x23, x24, x25, x26, x27] := by
  have hh := ((((((((((((((((((((((((((((h.set_ 0 x0).set_ 1 x1).set_ 2 x2).set_ 3 x3).set_ 4 x4).set_ 5 x5).set_ 6 x6).set_ 7 x7).set_ 8 x8).set_ 9 x9).set_ 10 x10).set_ 11 x11).set_ 12 x12).set_ 13 x13).set_ 14 x14).set_ 15 x15).set_ 16 x16).set_ 17 x17).set_ 18 x18).set_ 19 x19).set_ 20 x20).set_ 21 x21).set_ 22 x22).set_ 23 x23).set_ 24 x24).set_ 25 x25).set_ 26 x26).set_ 27 x27)
  simp only [z28, List.setIfInBounds_toArray, List.set_cons_zero, List.set_cons_succ] at hh
  exact hh
theorem below28 {w0 w : World} {B g : Nat} (h : Below B w0 w) (hg : B ≤ g) (x0 x1 x2 x3 x4 x5 x6 x7 x8 x9 x10 x11 x12 x13 x14 x15 x16 x17 x18 x19 x20 x21 x22 x23 x24 x25 x26 x27 : Value) : Below B w0 ((((((((((((((((((((((((((((w.setCell ⟨g, 0, none⟩ x0).setCell ⟨g, 1, none⟩ x1).setCell ⟨g, 2, none⟩ x2).setCell ⟨g, 3, none⟩ x3).setCell ⟨g, 4, none⟩ x4).setCell ⟨g, 5, none⟩ x5).setCell ⟨g, 6, none⟩ x6).setCell ⟨g, 7, none⟩ x7).setCell ⟨g, 8, none⟩ x8).setCell ⟨g, 9, none⟩ x9).setCell ⟨g, 10, none⟩ x10).setCell ⟨g, 11, none⟩ x11).setCell ⟨g, 12, none⟩ x12).setCell ⟨g, 13, none⟩ x13).setCell ⟨g, 14, none⟩ x14).setCell ⟨g, 15, none⟩ x15).setCell ⟨g, 16, none⟩ x16).setCell ⟨g, 17, none⟩ x17).setCell ⟨g, 18, none⟩ x18).setCell ⟨g, 19, none⟩ x19).setCell ⟨g, 20, none⟩ x20).setCell ⟨g, 21, none⟩ x21).setCell ⟨g, 22, none⟩ x22).setCell ⟨g, 23, none⟩ x23).setCell ⟨g, 24, none⟩ x24).setCell ⟨g, 25, none⟩ x25).setCell ⟨g, 26, none⟩ x26).setCell ⟨g, 27, none⟩ x27) :=
  ((((((((((((((((((((((((((((h.setCell hg x0).setCell hg x1).setCell hg x2).setCell hg x3).setCell hg x4).setCell hg x5).setCell hg x6).setCell hg x7).setCell hg x8).setCell hg x9).setCell hg x10).setCell hg x11).setCell hg x12).setCell hg x13).setCell hg x14).setCell hg x15).setCell hg x16).setCell hg x17).setCell hg x18).setCell hg x19).setCell hg x20).setCell hg x21).setCell hg x22).setCell hg x23).setCell hg x24).setCell hg x25).setCell hg x26).setCell hg x27)
theorem res27 (tmps : Array Value) (W : World) (g : Nat) (z : Array Value) (bb : Bool) (h : Blk W g 86 z) (hs : z.size = 28) (h4 : tmps.getD 4 undef = .pointer (some ⟨g, 0, none⟩)) (h5 : tmps.getD 5 undef = .bool bb) :
    (results Tryd.f30 tmps).run Tryd.prog W = .ok (.tuple #[.agg z, .bool bb]) W := by
  have hr := run_loadVar_mid (P := Tryd.prog) W g 0 86 z.toList _ (fun j v hv => by rw [Nat.zero_add, h.cell]; simpa using hv) Tryd.underlying86 rfl (by rw [Array.length_toList, hs]; kernel_rfl)
  have h4' : tmps[4]?.getD undef = .pointer (some ⟨g, 0, none⟩) := by simpa using h4
  have h5' : tmps[5]?.getD undef = .bool bb := by simpa using h5
  simp [results, Tryd.results30, h4', h5', asAddr, hr]
theorem isE {s T : ByteArray} (h : s.toList.isEmpty = true ∨ (!T.toList == s.toList) = true) (h2 : ¬ s.toList = []) : ¬ T.toList = s.toList := by
  rcases h with h | h
  · exact absurd (by simpa using h) h2
  · simpa using h
end Go.Proofs.YtnolnlekdlfeaaaDoor.ZT
