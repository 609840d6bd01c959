/- The models of n011_198 walked: classes, groups, the recursive descent. -/
import Derived.Test.YtajkdjheoefbcaaFmtProg
import Derived.Test.YtajkdjheoefbcaaFmtTab
import Derived.Test.YtajkdjheoefbcaaFmtOwn
import Derived.Test.YtajkdjheoefbcaaFmtPlain
import Derived.WalkKit
import Derived.WalkLawsBesides
import Derived.WalkSpells
import Derived.Lib.Hide
import Derived.Outline
import Derived.Laws.Tables
import Derived.Deep.QuietTactic
import Derived.BigQuiet
import Derived.LoopTactic
import Derived.RegionTactic
import Derived.BigRegion
import Derived.Deep.Cut
import Derived.Deep.DeepCutAuto
namespace Go.Proofs.YtajkdjheoefbcaaFmt.ZA
open Go.RowKit Go.Proofs.YtajkdjheoefbcaaFmt.TB Go.Proofs.YtajkdjheoefbcaaFmt.OW Go.Proofs.YtajkdjheoefbcaaFmt.PL
set_option linter.unusedVariables false
/-- A slice of bytes. -/
def BR (w : World) (A : Option Addr) (n : Nat) (z : Nat → Int) : Prop :=
  0 < n → ∃ b o, A = some ⟨b, o, none⟩ ∧ b < w.heap.size ∧ ∀ i, i < n → w.cell? ⟨b, o + i, none⟩ = some (.int .u8 (z i))
theorem BR.below {w w' : World} {A : Option Addr} {n : Nat} {z : Nat → Int} (h : BR w A n z) (hb : Below w.heap.size w w') : BR w' A n z := by
  intro hn
  obtain ⟨b, o, e, hl, hc⟩ := h hn
  exact ⟨b, o, e, Nat.lt_of_lt_of_le hl hb.size, fun i hi => by rw [hb.cell hl]; exact hc i hi⟩
/-- The class of the byte at i. -/
def kl (z : Nat → Int) (i : Nat) : Nat := (z i).toNat % 15
theorem kl_lt (z : Nat → Int) (i : Nat) : kl z i < 15 := Nat.mod_lt _ (by omega)
set_option maxRecDepth 100000 in
theorem cls (z : Nat → Int) (i : Nat) (w : World) (h : 0 ≤ z i) (h2 : z i ≤ 255) :
    Calls Tryf.prog 7 #[.int .u8 (z i)] w fun e w' => e = .returned (.int .i64 (kl z i)) ∧ w = w' := by
  have e1 : ((kl z i : Nat) : Int) = z i % 15 := by unfold kl; omega
  rw [e1]
  clear e1
  go_enter Tryf.func7, Tryf.ntmps7
  go_wp2
  go_ret
  exact ⟨rfl, rfl⟩
set_option maxRecDepth 100000 in
theorem closer_some (k x : Nat) (w : World) (h : cl k = some x) :
    Calls Tryf.prog 17 #[.int .i64 k] w fun e w' => e = .returned (.int .i64 x) ∧ w = w' := by
  have : (k = 5 ∧ x = 7) ∨ (k = 6 ∧ x = 7) ∨ (k = 8 ∧ x = 9) ∨ (k = 10 ∧ x = 11) := by
    unfold cl at h
    split at h
    · cases h; omega
    · split at h
      · cases h; omega
      · split at h
        · cases h; omega
        · cases h
  clear h
  rcases this with ⟨rfl, rfl⟩ | ⟨rfl, rfl⟩ | ⟨rfl, rfl⟩ | ⟨rfl, rfl⟩
  all_goals
    go_enter Tryf.func17, Tryf.ntmps17
    go_wp2
    go_ret
    exact ⟨rfl, rfl⟩
theorem cl_none {k : Nat} (h : cl k = none) : k ≠ 5 ∧ k ≠ 6 ∧ k ≠ 8 ∧ k ≠ 10 := by
  unfold cl at h
  split at h
  · cases h
  · split at h
    · cases h
    · split at h
      · cases h
      · omega
set_option maxRecDepth 100000 in
theorem closer_none (k : Nat) (w : World) (h : cl k = none) :
    Calls Tryf.prog 17 #[.int .i64 k] w fun e w' => e = .returned (.int .i64 (-1)) ∧ w = w' := by
  obtain ⟨h1, h2, h3, h4⟩ := cl_none h
  clear h
  have e1 : ((k : Int) == 5) = false := by simp; omega
  have e2 : ((k : Int) == 6) = false := by simp; omega
  have e3 : ((k : Int) == 8) = false := by simp; omega
  have e4 : ((k : Int) == 10) = false := by simp; omega
  go_enter Tryf.func17, Tryf.ntmps17
  go_wp2
  go_ret
  exact ⟨rfl, rfl⟩
end Go.Proofs.YtajkdjheoefbcaaFmt.ZA
