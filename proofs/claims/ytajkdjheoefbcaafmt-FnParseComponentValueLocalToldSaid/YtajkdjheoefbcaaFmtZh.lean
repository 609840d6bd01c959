/- The explicit stack of n011_198 walked; the wrappers of the parser. -/
import Derived.Test.YtajkdjheoefbcaaFmtZg
namespace Go.Proofs.YtajkdjheoefbcaaFmt.ZA
open Go.RowKit Go.Proofs.YtajkdjheoefbcaaFmt.TB Go.Proofs.YtajkdjheoefbcaaFmt.OW Go.Proofs.YtajkdjheoefbcaaFmt.PL
set_option linter.unusedVariables false
set_option maxRecDepth 100000 in
theorem kidW (k : Nat) (w : World) (h : k < 15) : Calls Tryf.prog 16 #[.int .i64 k] w fun e w' => e = .returned (.int .i64 (kid k)) ∧ w = w' := by
  rcases fifteen h with rfl | rfl | rfl | rfl | rfl | rfl | rfl | rfl | rfl | rfl | rfl | rfl | rfl | rfl | rfl
  all_goals
    clear h
    go_enter Tryf.func16, Tryf.ntmps16
    go_wp2
    go_ret
    exact ⟨rfl, rfl⟩
theorem kid_lt {k : Nat} (h : k < 15) : kid k < 15 := by unfold kid; split <;> omega
theorem kid_kid (k : Nat) : kid (kid k) = kid k := by
  unfold kid
  by_cases h : k = 2 ∨ k = 13
  · rw [if_pos h]; rfl
  · rw [if_neg h, if_neg h]
theorem cl_kid (k : Nat) : cl (kid k) = cl k := by
  unfold kid
  split
  · rename_i h
    rcases h with rfl | rfl <;> rfl
  · rfl
/-- What zzB1GroupEnd hands back. -/
def gv (n : Nat) (r : Option Nat) : Value := match r with
  | some e => .tuple #[.int .i64 (e : Nat), .bool true]
  | none => .tuple #[.int .i64 (n : Nat), .bool false]
theorem info3 : (Tryf.prog.info? 3).map (fun i => (i.zero, i.size, i.bytes)) = some (some (.int .i64 0), 1, 8) := by kernel_rfl
def sv (st : List Nat) : List Value := st.reverse.map fun x => .int .i64 (x : Nat)
theorem sv_push (st : List Nat) (x : Nat) : sv st ++ [Value.int .i64 (x : Nat)] = sv (x :: st) := by simp [sv]
theorem sv_len (st : List Nat) : (sv st).length = st.length := by simp [sv]
/-- The state of the stack machine. -/
def SI (w : World) (k : Nat → Nat) (n c i : Nat) (wr : World) (s : Value) (st : List Nat) (j : Nat) : Prop :=
  Own wr w.heap.size s (sv st) ∧ Below w.heap.size w wr ∧ GS k n [c] i = GS k n st j ∧ st ≠ [] ∧ st.length ≤ j + 1
def GP (n : Nat) (r : Option Nat) (w : World) (e : Ending) (w' : World) : Prop := e = .returned (gv n r) ∧ Below w.heap.size w w'
set_option maxRecDepth 100000 in
set_option maxHeartbeats 2000000 in
theorem groupW (A : Option Addr) (n cp : Nat) (z : Nat → Int) (hz : ∀ i, i < n → 0 ≤ z i ∧ z i ≤ 255) (hn : n ≤ 1048576) (i want : Nat) (hw : want < 15) (hi : i ≤ n) (w : World) (r : BR w A n z) :
    Calls Tryf.prog 8 #[.slice A n cp, .int .i64 i, .int .i64 want] w (GP n (GS (kl z) n [kid want] i) w) := by
  have HZ := Lib.hid hz
  have R := Lib.hid r
  obtain ⟨i3, hi3, hz30, hz31, hz32⟩ := info_parts info3
  have hmk := fun (W : World) => run_make (P := Tryf.prog) W 38 3 i3 _ Tryf.underlying38 hi3 hz30 .i64 .i64 0 8 (by omega) (by omega) (by rw [hz32]; omega) (by omega)
  simp only [hz31, Int.toNat_zero, show (8 : Int).toNat = 8 from rfl, Nat.mul_one] at hmk
  have O0 := Lib.hid (Own.made (base := w.heap.size) w (madeCells #[.int .i64 0] 8) 3 (Nat.le_refl _) (by rw [size_madeCells]; unfold maxLen; decide))
  have B0 := Lib.hid (show Below w.heap.size w (w.alloc (.cells (madeCells #[.int .i64 0] 8) 3)) from (Below.refl _ _).alloc (Nat.le_refl _) _)
  have hs0 : (madeCells #[Value.int .i64 0] 8).size = 8 := by rw [size_madeCells]
  rw [hs0] at O0
  have KW := Lib.hid (fun W => kidW want W hw)
  have kl15 := kid_lt hw
  clear r hz hs0 hw
  generalize kid want = c at *
  go_enter Tryf.func8, Tryf.ntmps8
  go_wp2_with fail
  generalize w.alloc (.cells (madeCells #[.int .i64 0] 8) 3) = W0 at *
  clear hmk
  refine (KW.out _).mono ?_
  rintro e w' ⟨rfl, rfl⟩
  have O0' : Own (W0.alloc (.cells #[.int .i64 (c : Nat)] 3)) w.heap.size _ [] := O0.out.alloc _
  have HO0 := Lib.hid O0'
  have BO := Lib.hid (O0.out.lt)
  clear O0' O0 KW
  go_wp2_with (at_builtin; refine wpList_own _ rfl (.tmp 13) (.tmp 16) 38 rfl w.heap.size 3 i3 (.int .i64 0) Tryf.underlying38 hi3 hz30 hz31 (by rw [hz32]; decide) rfl _ _ rfl HO0.out ⟨W0.heap.size, 0, none⟩ 1 (.int .i64 (c : Nat)) rfl (by simp [go_sem]) rfl (by simp) ?_)
  intro v' w' hO hG hB
  have H1 := Lib.hid (show SI w (kl z) n c i w' v' [c] i from ⟨hO, below_grown (B0.out.alloc B0.out.size _) hG (fun q hq => (BO.out q hq).1) (by have := B0.out.size; simp; omega), rfl, by simp, by simp⟩)
  clear hO hG hB HO0 BO B0
  go_wp2_with fail
  go_loopw [8, 9] (fun s x wr => ∃ (st : List Nat) (j : Nat), i ≤ j ∧ j ≤ n ∧ x = .int .i64 j ∧ Hid (SI w (kl z) n c i wr s st j)) (fun _ x _ => n - (intOf x).toNat)
  case atStart => exact ⟨[c], i, Nat.le_refl _, hi, rfl, H1⟩
  case round =>
    obtain ⟨st, j, hij, hj, rfl, I1⟩ := hrel
    clear H1
    by_cases hlt : j < n
    · obtain ⟨b, o, rfl, hb, hc⟩ := R.out (by omega)
      have x1 : wr.cell? ⟨b, o + j, none⟩ = some (.int .u8 (z j)) := by rw [I1.out.2.1.cell hb]; exact hc j hlt
      have h0 := (HZ.out j hlt).1
      have h1 := (HZ.out j hlt).2
      have k15 := kl_lt z j
      have q1 : (0 : Int) ≤ (j : Int) := by omega
      have q2 : (j : Int) < (n : Int) := by omega
      clear hc
      obtain ⟨x, st1, rfl⟩ : ∃ x st1, st = x :: st1 := by
        cases st with
        | nil => exact absurd rfl I1.out.2.2.2.1
        | cons x st1 => exact ⟨x, st1, rfl⟩
      have hl := I1.out.2.2.2.2
      simp only [List.length_cons] at hl
      have HQ := Lib.hid (GS_eq (kl z) n (x :: st1) j)
      have hO := I1.out.1
      rw [← sv_push] at hO
      obtain ⟨gs, cap, rfl, hcap, hcm, htop, hpop⟩ := hO.pop
      rw [sv_len] at hcap htop hpop I1 ⊢
      have HPOP := Lib.hid hpop
      have CK := cl_kid (kl z j)
      have HK := Lib.hid (fun W => kidW (kl z j) W k15)
      clear hO hpop
      have hm : st1.length + 1 ≤ 1099511627776 := by omega
      unfold maxLen at hcm
      have e1 : ((st1.length + 1 : Nat) : Int) - 1 = (st1.length : Int) := by omega
      have e2 : ((st1.length : Int) + 1) - 1 = (st1.length : Int) := by omega
      by_cases hk : kid (kl z j) = x
      · have ek : (((kid (kl z j) : Nat) : Int) == (x : Int)) = true := by rw [beq_iff_eq]; omega
        by_cases hs : st1 = []
        · subst hs
          have EE : Hid (GS (kl z) n [c] i = some (j + 1)) := by
            apply Lib.hid; rw [I1.out.2.2.1, HQ.out, if_pos hlt, if_pos (by simp [hk]), if_pos (by simp)]
          simp only [List.length_nil] at *
          clear hk
          go_wp2_with (first
            | (go_at_call 7; refine (cls z j _ h0 h1).mono ?_; rintro e w' ⟨rfl, rfl⟩)
            | (go_at_call 16; refine (HK.out _).mono ?_; rintro e w' ⟨rfl, rfl⟩))
          go_ret2
          exact ⟨by rw [EE.out]; rfl, I1.out.2.1⟩
        · have EE : Hid (GS (kl z) n [c] i = GS (kl z) n st1 (j + 1)) := by
            apply Lib.hid; rw [I1.out.2.2.1, HQ.out, if_pos hlt, if_pos (by simp [hk]), if_neg (by simpa using hs)]; rfl
          have hpos : 0 < st1.length := List.length_pos_iff.2 hs
          have e3 : ((st1.length : Int) == 0) = false := by rw [beq_eq_false_iff_ne]; omega
          have I3 : Hid (SI w (kl z) n c i wr (.slice (some ⟨gs, 0, none⟩) st1.length cap) st1 (j + 1)) := Lib.hid ⟨HPOP.out, I1.out.2.1, EE.out, hs, by omega⟩
          clear hk
          go_wp2_with (first
            | (go_at_call 7; refine (cls z j _ h0 h1).mono ?_; rintro e w' ⟨rfl, rfl⟩)
            | (go_at_call 16; refine (HK.out _).mono ?_; rintro e w' ⟨rfl, rfl⟩))
          go_roundw
          case rel => exact ⟨st1, j + 1, by omega, by omega, by go_num, I3⟩
          case measure => simp [intOf]; omega
      · have ek : (((kid (kl z j) : Nat) : Int) == (x : Int)) = false := by rw [beq_eq_false_iff_ne]; omega
        have hh : ¬ (x :: st1).head? = some (kid (kl z j)) := by simp; omega
        cases hcl : cl (kl z j) with
        | none =>
          have HC := Lib.hid (fun W => closer_none (kid (kl z j)) W (by rw [CK]; exact hcl))
          have EE : Hid (GS (kl z) n [c] i = GS (kl z) n (x :: st1) (j + 1)) := by
            apply Lib.hid; rw [I1.out.2.2.1, HQ.out, if_pos hlt, if_neg hh, hcl]
          have I3 : Hid (SI w (kl z) n c i wr (.slice (some ⟨gs, 0, none⟩) (st1.length + 1) cap) (x :: st1) (j + 1)) := Lib.hid ⟨I1.out.1, I1.out.2.1, EE.out, by simp, by simp; omega⟩
          clear hk hh hcl CK
          go_wp2_with (first
            | (go_at_call 7; refine (cls z j _ h0 h1).mono ?_; rintro e w' ⟨rfl, rfl⟩)
            | (go_at_call 17; refine (HC.out _).mono ?_; rintro e w' ⟨rfl, rfl⟩)
            | (go_at_call 16; refine (HK.out _).mono ?_; rintro e w' ⟨rfl, rfl⟩))
          go_roundw
          case rel => exact ⟨x :: st1, j + 1, by omega, by omega, by go_num, I3⟩
          case measure => simp [intOf]; omega
        | some y =>
          have HC := Lib.hid (fun W => closer_some (kid (kl z j)) y W (by rw [CK]; exact hcl))
          have EE : Hid (GS (kl z) n [c] i = GS (kl z) n (y :: x :: st1) (j + 1)) := by
            apply Lib.hid; rw [I1.out.2.2.1, HQ.out, if_pos hlt, if_neg hh, hcl]
          have OA := Lib.hid (fun (o : Obj) => I1.out.1.alloc o)
          have BG := Lib.hid I1.out.1.lt
          have hy : (0 : Int) ≤ (y : Int) := by omega
          clear hk hh hcl CK
          go_wp2_with (first
            | (go_at_call 7; refine (cls z j _ h0 h1).mono ?_; rintro e w' ⟨rfl, rfl⟩)
            | (go_at_call 17; refine (HC.out _).mono ?_; rintro e w' ⟨rfl, rfl⟩)
            | (go_at_call 16; refine (HK.out _).mono ?_; rintro e w' ⟨rfl, rfl⟩)
            | (at_builtin; refine wpList_own _ rfl (.tmp 53) (.tmp 55) 38 rfl w.heap.size 3 i3 (.int .i64 0) Tryf.underlying38 hi3 hz30 hz31 (by rw [hz32]; decide) rfl _ _ rfl (OA.out _) ⟨wr.heap.size, 0, none⟩ 1 (.int .i64 (y : Nat)) rfl (by simp [go_sem]) rfl (by rw [sv_len]; simp; omega) ?_))
          intro v' w' hO hG hB
          rw [sv_push] at hO
          have I3 : Hid (SI w (kl z) n c i w' v' (y :: x :: st1) (j + 1)) := Lib.hid ⟨hO, below_grown (I1.out.2.1.alloc I1.out.2.1.size _) hG (fun q hq => (BG.out q hq).1) (by have := I1.out.2.1.size; simp; omega), EE.out, by simp, by simp; omega⟩
          clear hO hG hB OA BG
          go_wp2_with fail
          go_roundw
          case rel => exact ⟨y :: x :: st1, j + 1, by omega, by omega, by go_num, I3⟩
          case measure => simp [intOf]; omega
    · have EE : Hid (GS (kl z) n [c] i = none) := by
        apply Lib.hid; rw [I1.out.2.2.1, GS_eq, if_neg hlt]
      obtain rfl : j = n := by omega
      go_wp2_with fail
      go_ret2
      exact ⟨by rw [EE.out]; rfl, I1.out.2.1⟩
end Go.Proofs.YtajkdjheoefbcaaFmt.ZA
