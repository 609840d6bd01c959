/- The parser of n011_198; strings.HasPrefix at a token's text. -/
import Derived.Test.YtajkdjheoefbcaaZe
import Derived.Deep.RegionHeld3
namespace Go.Proofs.Ytajkdjheoefbcaa.ZA
open Go.RowKit Go.Proofs.Ytajkdjheoefbcaa.TB Go.Proofs.Ytajkdjheoefbcaa.OW Go.Proofs.Ytajkdjheoefbcaa.PL
set_option linter.unusedVariables false
/-- The parser in block gp, its tokens in block g. -/
def Par (w : World) (gp g n : Nat) (c : ByteArray) (ix : Nat) (f : Nat → Nat → Value) : Prop :=
  (w.cell? ⟨gp, 16, none⟩ = some (.slice (some ⟨g, 0, none⟩) n n) ∧ w.cell? ⟨gp, 42, none⟩ = some (.int .i64 ix) ∧ w.cell? ⟨gp, 9, none⟩ = some (.string c) ∧ w.frozen? ⟨gp, 42, none⟩ = false) ∧ Tab w g 44 5 n f ∧ g < gp ∧ gp < w.heap.size
theorem Par.below {w w' : World} {gp g n ix B : Nat} {c : ByteArray} {f : Nat → Nat → Value} (h : Par w gp g n c ix f) (hb : Below B w w') (hB : gp < B) : Par w' gp g n c ix f := by
  obtain ⟨⟨h1, h2, h3, h4⟩, h5, h6, h7⟩ := h
  refine ⟨⟨?_, ?_, ?_, ?_⟩, h5.below hb (by omega), h6, Nat.lt_of_lt_of_le h7 hb.size⟩
  · rw [hb.cell (p := ⟨gp, 16, none⟩) hB]; exact h1
  · rw [hb.cell (p := ⟨gp, 42, none⟩) hB]; exact h2
  · rw [hb.cell (p := ⟨gp, 9, none⟩) hB]; exact h3
  · rw [hb.frozen (p := ⟨gp, 42, none⟩) hB]; exact h4
set_option maxRecDepth 100000 in
set_option maxHeartbeats 1000000 in
theorem makeW (c : ByteArray) (g n ix : Nat) (f : Nat → Nat → Value) (w : World) (h : Tab w g 44 5 n f) :
    Calls Try.prog 15 #[.string c, .slice (some ⟨g, 0, none⟩) n n, .int .i64 ix] w fun e w' => e = .returned (.pointer (some ⟨w.heap.size, 0, none⟩)) ∧ Par w' w.heap.size g n c ix f ∧ Below w.heap.size w w' := by
  have H := Lib.hid h
  clear h
  go_enter Try.func15, Try.ntmps15
  go_wp2
  go_ret
  exact ⟨rfl, ⟨⟨by simp [go_sem], by simp [go_sem], by simp [go_sem], by simp [go_sem]⟩, H.out.alloc _, H.out.lt, by simp⟩, (Below.refl _ _).alloc (Nat.le_refl _) _⟩
def isP (s : ByteArray) : Bool := decide (2 ≤ s.size) && ((s.extract 0 2).toList == [45, 45])
set_option maxRecDepth 100000 in
set_option maxHeartbeats 1000000 in
theorem hasPrefix (s : ByteArray) (w : World) (hs : s.size ≤ 1099511627776) :
    Calls Try.prog 20 #[.string s, .string ⟨#[45, 45]⟩] w fun e w' => e = .returned (.bool (isP s)) ∧ w = w' := by
  by_cases h : 2 ≤ s.size
  · have q : (2 : Int) ≤ (s.size : Int) := by omega
    have e : isP s = ((s.extract 0 2).toList == [45, 45]) := by unfold isP; simp [h]
    rw [e]
    clear e
    go_enter Try.func20, Try.ntmps20
    go_wp2
    go_ret
    exact ⟨rfl, rfl⟩
  · have q : ¬ (2 : Int) ≤ (s.size : Int) := by omega
    have e : isP s = false := by unfold isP; simp [h]
    rw [e]
    clear e
    go_enter Try.func20, Try.ntmps20
    go_wp2
    go_ret
    exact ⟨rfl, rfl⟩
theorem isP_at (z : Nat → Int) (i n : Nat) (h : i < n) (hc : kl z i = 1 ∨ kl z i = 2 ∨ kl z i = 13) :
    isP ((⟨(allT z n).toArray⟩ : ByteArray).extract (allT z i).length (⟨(allT z n).toArray⟩ : ByteArray).size) = decide (kl z i = 2) := by
  obtain ⟨r, hr⟩ := allT_at z i n h
  have e1 : ((⟨(allT z n).toArray⟩ : ByteArray).extract (allT z i).length (⟨(allT z n).toArray⟩ : ByteArray).size) = ⟨(txtL (kl z i) ++ r).toArray⟩ := by
    apply ByteArray.ext
    rw [ByteArray.data_extract]
    simp only [ByteArray.size]
    rw [hr]
    apply Array.ext'
    simp
    exact List.take_of_length_le (by simp)
  rw [e1]
  unfold isP
  rcases hc with hc | hc | hc <;> rw [hc] <;> simp [txtL, ByteArray.size, ByteArray.toList_eq, ByteArray.data_extract]
end Go.Proofs.Ytajkdjheoefbcaa.ZA
