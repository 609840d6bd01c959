/- The models of n011_198 walked: classes, groups, the recursive descent. -/
import Derived.Test.YtajkdjheoefbcaaProg
import Derived.Test.YtajkdjheoefbcaaTab
import Derived.Test.YtajkdjheoefbcaaOwn
import Derived.Test.YtajkdjheoefbcaaPlain
import Derived.WalkKit
import Derived.WalkLawsBesides
import Derived.WalkSpells
import Derived.Lib.Hide
import Derived.Outline
import Derived.Laws.Tables
import Derived.Deep.QuietTactic
import Derived.BigQuiet
import Derived.LoopTactic
import Derived.RegionTactic
import Derived.BigRegion
import Derived.Deep.Cut
import Derived.Deep.DeepCutAuto
namespace Go.Proofs.Ytajkdjheoefbcaa.ZA
open Go.RowKit Go.Proofs.Ytajkdjheoefbcaa.TB Go.Proofs.Ytajkdjheoefbcaa.OW Go.Proofs.Ytajkdjheoefbcaa.PL
set_option linter.unusedVariables false
/-- A slice of bytes. -/
def BR (w : World) (A : Option Addr) (n : Nat) (z : Nat → Int) : Prop :=
  0 < n → ∃ b o, A = some ⟨b, o, none⟩ ∧ b < w.heap.size ∧ ∀ i, i < n → w.cell? ⟨b, o + i, none⟩ = some (.int .u8 (z i))
theorem BR.below {w w' : World} {A : Option Addr} {n : Nat} {z : Nat → Int} (h : BR w A n z) (hb : Below w.heap.size w w') : BR w' A n z := by
  intro hn
  obtain ⟨b, o, e, hl, hc⟩ := h hn
  exact ⟨b, o, e, Nat.lt_of_lt_of_le hl hb.size, fun i hi => by rw [hb.cell hl]; exact hc i hi⟩
/-- The class of the byte at i. -/
def kl (z : Nat → Int) (i : Nat) : Nat := (z i).toNat % 15
theorem kl_lt (z : Nat → Int) (i : Nat) : kl z i < 15 := Nat.mod_lt _ (by omega)
set_option maxRecDepth 100000 in
theorem cls (z : Nat → Int) (i : Nat) (w : World) (h : 0 ≤ z i) (h2 : z i ≤ 255) :
    Calls Try.prog 12 #[.int .u8 (z i)] w fun e w' => e = .returned (.int .i64 (kl z i)) ∧ w = w' := by
  have e1 : ((kl z i : Nat) : Int) = z i % 15 := by unfold kl; omega
  rw [e1]
  clear e1
  go_enter Try.func12, Try.ntmps12
  go_wp2
  go_ret
  exact ⟨rfl, rfl⟩
set_option maxRecDepth 100000 in
theorem closer_some (k x : Nat) (w : World) (h : cl k = some x) :
    Calls Try.prog 18 #[.int .i64 k] w fun e w' => e = .returned (.int .i64 x) ∧ w = w' := by
  have : (k = 5 ∧ x = 7) ∨ (k = 6 ∧ x = 7) ∨ (k = 8 ∧ x = 9) ∨ (k = 10 ∧ x = 11) := by
    unfold cl at h
    split at h
    · cases h; omega
    · split at h
      · cases h; omega
      · split at h
        · cases h; omega
        · cases h
  clear h
  rcases this with ⟨rfl, rfl⟩ | ⟨rfl, rfl⟩ | ⟨rfl, rfl⟩ | ⟨rfl, rfl⟩
  all_goals
    go_enter Try.func18, Try.ntmps18
    go_wp2
    go_ret
    exact ⟨rfl, rfl⟩
theorem cl_none {k : Nat} (h : cl k = none) : k ≠ 5 ∧ k ≠ 6 ∧ k ≠ 8 ∧ k ≠ 10 := by
  unfold cl at h
  split at h
  · cases h
  · split at h
    · cases h
    · split at h
      · cases h
      · omega
set_option maxRecDepth 100000 in
theorem closer_none (k : Nat) (w : World) (h : cl k = none) :
    Calls Try.prog 18 #[.int .i64 k] w fun e w' => e = .returned (.int .i64 (-1)) ∧ w = w' := by
  obtain ⟨h1, h2, h3, h4⟩ := cl_none h
  clear h
  have e1 : ((k : Int) == 5) = false := by simp; omega
  have e2 : ((k : Int) == 6) = false := by simp; omega
  have e3 : ((k : Int) == 8) = false := by simp; omega
  have e4 : ((k : Int) == 10) = false := by simp; omega
  go_enter Try.func18, Try.ntmps18
  go_wp2
  go_ret
  exact ⟨rfl, rfl⟩
/-- What zzB1ScanSkip hands back. -/
def skv (r : Option Nat) : Value := match r with
  | some e => .tuple #[.int .i64 (e : Nat), .bool true]
  | none => .tuple #[.int .i64 0, .bool false]
set_option maxRecDepth 100000 in
set_option maxHeartbeats 1000000 in
theorem skipW (A : Option Addr) (n c : Nat) (z : Nat → Int) (hz : ∀ i, i < n → 0 ≤ z i ∧ z i ≤ 255) (hn : n ≤ 1048576) (f : Nat) : ∀ (i want : Nat) (w : World), n - i < f → i ≤ n → BR w A n z →
    Calls Try.prog 19 #[.slice A n c, .int .i64 i, .int .i64 want] w fun e w' => e = .returned (skv (SK (kl z) n want i)) ∧ w = w' := by
  have HZ := Lib.hid hz
  clear hz
  induction f with
  | zero => intro i want w h; omega
  | succ f ih =>
    intro i want w hf hi r
    have IH := Lib.hid ih
    have R := Lib.hid r
    clear r ih
    go_enter Try.func19, Try.ntmps19
    go_wp2
    go_loop [1] (fun s => ∃ j : Nat, i ≤ j ∧ j ≤ n ∧ s = .int .i64 j ∧ Hid (SK (kl z) n want i = SK (kl z) n want j)) (fun s => n - (intOf s).toNat)
    case atStart => exact ⟨i, Nat.le_refl _, hi, rfl, Lib.hid rfl⟩
    case round =>
      obtain ⟨j, hij, hj, rfl, HE⟩ := hrel
      by_cases hlt : j < n
      · obtain ⟨b, o, rfl, hb, hc⟩ := R.out (by omega)
        have x1 := hc j hlt
        have h0 := (HZ.out j hlt).1
        have h1 := (HZ.out j hlt).2
        clear hc
        have q1 : (0 : Int) ≤ (j : Int) := by omega
        have q2 : (j : Int) < (n : Int) := by omega
        have HQ := Lib.hid (SK_eq (kl z) n want j)
        by_cases hw : kl z j = want
        · have ew : (((kl z j : Nat) : Int) == (want : Int)) = true := by rw [beq_iff_eq]; omega
          have EE : Hid (SK (kl z) n want i = some (j + 1)) := by
            apply Lib.hid; rw [HE.out, HQ.out, if_pos hlt, if_pos hw]
          clear hw
          go_wp2_with (go_at_call 12; refine (cls z j _ h0 h1).mono ?_; rintro e w' ⟨rfl, rfl⟩)
          go_ret2
          exact ⟨by rw [EE.out]; rfl, rfl⟩
        · have ew : (((kl z j : Nat) : Int) == (want : Int)) = false := by rw [beq_eq_false_iff_ne]; omega
          by_cases h11 : kl z j = 11
          · have e11 : (((kl z j : Nat) : Int) == 11) = true := by simp; omega
            have EE : Hid (SK (kl z) n want i = none) := by
              apply Lib.hid; rw [HE.out, HQ.out, if_pos hlt, if_neg hw, if_pos h11]
            clear hw h11
            go_wp2_with (go_at_call 12; refine (cls z j _ h0 h1).mono ?_; rintro e w' ⟨rfl, rfl⟩)
            go_ret2
            exact ⟨by rw [EE.out]; rfl, rfl⟩
          · have e11 : (((kl z j : Nat) : Int) == 11) = false := by simp; omega
            cases hcl : cl (kl z j) with
            | none =>
              have HC := Lib.hid hcl
              have EE : Hid (SK (kl z) n want i = SK (kl z) n want (j + 1)) := by
                apply Lib.hid; rw [HE.out, HQ.out, if_pos hlt, if_neg hw, if_neg h11, hcl]
              clear hw h11 hcl
              go_wp2_with (first
                | (go_at_call 12; refine (cls z j _ h0 h1).mono ?_; rintro e w' ⟨rfl, rfl⟩)
                | (go_at_call 18; refine (closer_none _ _ HC.out).mono ?_; rintro e w' ⟨rfl, rfl⟩))
              go_round
              case rel => exact ⟨j + 1, by omega, by omega, by go_num, EE⟩
              case measure => simp [intOf]; omega
            | some x =>
              have HC := Lib.hid hcl
              have EE : Hid (SK (kl z) n want i = (SK (kl z) n x (j + 1)).bind (fun e => SK (kl z) n want e)) := by
                apply Lib.hid; rw [HE.out, HQ.out, if_pos hlt, if_neg hw, if_neg h11, hcl]
              clear hw h11 hcl
              have HI := Lib.hid (IH.out (j + 1) x w (by omega) (by omega) R.out)
              have ej : ((j + 1 : Nat) : Int) = (j : Int) + 1 := by omega
              rw [ej] at HI
              cases hs : SK (kl z) n x (j + 1) with
              | none =>
                have EN : Hid (SK (kl z) n want i = none) := by apply Lib.hid; rw [EE.out, hs]; rfl
                rw [hs] at HI
                clear hs EE
                go_wp2_with (first
                  | (go_at_call 12; refine (cls z j _ h0 h1).mono ?_; rintro e w' ⟨rfl, rfl⟩)
                  | (go_at_call 18; refine (closer_some _ _ _ HC.out).mono ?_; rintro e w' ⟨rfl, rfl⟩)
                  | (go_at_call 19; refine HI.out.mono ?_; rintro e w' ⟨rfl, rfl⟩; unfold skv))
                go_ret2
                exact ⟨by rw [EN.out]; rfl, rfl⟩
              | some y =>
                have hg := SK_gt (kl z) n hs
                have EN : Hid (SK (kl z) n want i = SK (kl z) n want y) := by apply Lib.hid; rw [EE.out, hs]; rfl
                rw [hs] at HI
                clear hs EE
                go_wp2_with (first
                  | (go_at_call 12; refine (cls z j _ h0 h1).mono ?_; rintro e w' ⟨rfl, rfl⟩)
                  | (go_at_call 18; refine (closer_some _ _ _ HC.out).mono ?_; rintro e w' ⟨rfl, rfl⟩)
                  | (go_at_call 19; refine HI.out.mono ?_; rintro e w' ⟨rfl, rfl⟩; unfold skv))
                go_round
                case rel => exact ⟨y, by omega, by omega, rfl, EN⟩
                case measure => simp [intOf]; omega
      · have EE : Hid (SK (kl z) n want i = none) := by
          apply Lib.hid; rw [HE.out, SK_eq, if_neg hlt]
        go_wp2_with fail
        go_ret2
        exact ⟨by rw [EE.out]; rfl, rfl⟩
end Go.Proofs.Ytajkdjheoefbcaa.ZA
