/- ZZExpandTokenQuad and the helpers of its law. Printed by gen_expandlaw.py. -/
import Derived.Test.YtnolnlekdlfeaaaDoorEx1
import Derived.Test.YtnolnlekdlfeaaaDoorEx2
import Derived.Test.YtnolnlekdlfeaaaDoorEx3
import Derived.Test.YtnolnlekdlfeaaaDoorEx4
namespace Go.Proofs.YtnolnlekdlfeaaaDoor.ZT
open Go.RowKit Go.Proofs.YtnolnlekdlfeaaaDoor.TB
set_option linter.unusedVariables false
set_option maxRecDepth 100000 in
theorem expand_no (A : Option Addr) (n c : Nat) (s : ByteArray) (K : Nat → Int) (T : Nat → ByteArray) (W L : Nat → Int) (w : World) (hn : n ≤ 16384) (h : n < 1 ∨ 4 < n) :
    Calls Tryd.prog 30 #[.slice A n c, .string s] w (ExpP n s K T W L w) := by
  have HN := Lib.hid (show ¬ okAll n s K T from fun ha => by have := ha.1; have := ha.2.1; omega)
  have Z0 := Lib.hid (Blk.new w 86 z28)
  unfold z28 at Z0
  by_cases h1 : n < 1
  · go_enter Tryd.func30, Tryd.ntmps30
    go_wp2
    exact bodyPost_ret (res27 _ _ w.heap.size z28 false Z0.out rfl rfl rfl) rfl ⟨.inr ⟨HN.out, rfl⟩, (Below.refl _ _).alloc (Nat.le_refl _) _⟩
  · have h4 : 4 < n := by omega
    go_enter Tryd.func30, Tryd.ntmps30
    go_wp2
    exact bodyPost_ret (res27 _ _ w.heap.size z28 false Z0.out rfl rfl rfl) rfl ⟨.inr ⟨HN.out, rfl⟩, (Below.refl _ _).alloc (Nat.le_refl _) _⟩
theorem expand_any (A : Option Addr) (n c : Nat) (s : ByteArray) (K : Nat → Int) (T : Nat → ByteArray) (W L : Nat → Int) (w : World) (r : TR w A n (tc K T W L)) (hc : n ≤ c) (hn : c ≤ 16384) :
    Calls Tryd.prog 30 #[.slice A n c, .string s] w (ExpP n s K T W L w) := by
  rcases (by omega : (n < 1 ∨ 4 < n) ∨ (1 ≤ n ∧ n ≤ 1) ∨ (2 ≤ n ∧ n ≤ 2) ∨ (3 ≤ n ∧ n ≤ 3) ∨ (4 ≤ n ∧ n ≤ 4)) with h | ⟨h, h'⟩ | ⟨h, h'⟩ | ⟨h, h'⟩ | ⟨h, h'⟩
  · exact expand_no A n c s K T W L w (by omega) h
  · exact expand1 A n c s K T W L w r hc hn h h'
  · exact expand2 A n c s K T W L w r hc hn h h'
  · exact expand3 A n c s K T W L w r hc hn h h'
  · exact expand4 A n c s K T W L w r hc hn h h'
/-- A block filled whole. -/
theorem Blk.fill {w : World} {g : Nat} {t : TypeId} {z : Array Value} (h : Blk w g t z) (cs : Array Value) (hs : cs.size = z.size) : Blk (w.setCells g 0 cs.toList) g t cs := by
  have hT : Tab w g t z.size 1 (fun _ j => z[j]!) := ⟨z, h, by simp, fun i j hi hj => by
    obtain rfl : i = 0 := by omega
    rw [Nat.zero_mul, Nat.zero_add]; show z[j]? = some z[j]!; rw [getElem!_pos z j hj]; exact Array.getElem?_eq_getElem hj⟩
  obtain ⟨c, hb, hc, hf⟩ := hT.row (i := 0) (by omega) cs.toList (by simpa using hs)
  rw [Nat.zero_mul] at hb
  have e : c = cs := by
    apply Array.ext
    · rw [hc, hs]; omega
    · intro j h1 h2
      have := hf 0 j (by omega) (by omega)
      rw [Nat.zero_mul, Nat.zero_add] at this
      have this : c[j]? = some (cs.toList[j]?.getD undef) := this
      rw [Array.getElem?_eq_getElem h1] at this
      injection this with this
      rw [this]
      simp [h2]
  rw [e] at hb; exact hb
theorem Blk.there {w : World} {g : Nat} {t : TypeId} {z : Array Value} (h : Blk w g t z) : w.there g 0 z.size := fun j hj => by
  rw [Nat.zero_add]
  exact ⟨by rw [h.cell, Array.getElem?_eq_getElem hj]; rfl, h.frozen j⟩
theorem below_fill {w0 w : World} {B g : Nat} (cs : List Value) : ∀ {w : World} (o : Nat), Below B w0 w → B ≤ g → Below B w0 (w.setCells g o cs) := by
  induction cs with
  | nil => intro w o h _; exact h
  | cons v r ih => intro w o h hg; exact ih (o + 1) (h.setCell hg v) hg
end Go.Proofs.YtnolnlekdlfeaaaDoor.ZT
