/- compactRules of the corners where it does nothing. Printed by gen_co.py. -/
import Derived.Test.YtnolnlekdlfeaaaDoorCs
namespace Go.Proofs.YtnolnlekdlfeaaaDoor.ZT
open Go.RowKit Go.Proofs.YtnolnlekdlfeaaaDoor.TB
set_option linter.unusedVariables false
set_option linter.unusedSimpArgs false
set_option maxRecDepth 100000 in
set_option maxHeartbeats 8000000 in
theorem comp_unlike (g : Nat) (B : Option Addr) (n c : Nat) (S : Nat → Cn) (im : Bool) (ks kl : Int) (mw : Bool) (w : World) (q1 : ((S 0).k == 0) = false) (q2 : ((S 1).k == 0) = false) (q3 : ((S 2).k == 0) = false) (q4 : ((S 3).k == 0) = false)
    (hu : ∃ k, k < 3 ∧ sf S k = false) (hb : Tk w g S im) :
    Calls Tryd.prog 29 #[.pointer (some ⟨g, 0, none⟩), .slice B n c, .agg #[.int .i32 ks, .int .i32 kl], .bool mw] w fun e w' => e = .returned (.tuple #[]) ∧ Below w.heap.size w w' := by
  have HU := Lib.hid hu
  have HB := Lib.hid hb
  clear hu
  have hlt : g < w.heap.size := hb.lt
  clear hb
  have B0 := Lib.hid (fun (ob : Obj) => show Tk (w.alloc ob) g S im from HB.out.alloc ob)
  have K0 := Lib.hid (fun (ob : Obj) => show Below w.heap.size w (w.alloc ob) from (Below.refl _ _).alloc (Nat.le_refl _) ob)
  have ne : ¬ g = w.heap.size := by omega
  have ne2 : ¬ w.heap.size = g := by omega
  have c5 : w.cell? ⟨g, 5, none⟩ = some (.int .u8 (S 0).k) := HB.out.at (k := 0) (d := 5) (by omega) (by omega)
  have c23 : w.cell? ⟨g, 23, none⟩ = some (.int .u8 (S 1).k) := HB.out.at (k := 1) (d := 5) (by omega) (by omega)
  have c41 : w.cell? ⟨g, 41, none⟩ = some (.int .u8 (S 2).k) := HB.out.at (k := 2) (d := 5) (by omega) (by omega)
  have c59 : w.cell? ⟨g, 59, none⟩ = some (.int .u8 (S 3).k) := HB.out.at (k := 3) (d := 5) (by omega) (by omega)
  go_enter Tryd.func29, Tryd.ntmps29
  go_wp2
  clear c5 c23 c41 c59
  have BB := Lib.hid (B0.out (.cells #[.int .i32 ks, .int .i32 kl] 30))
  have BK := Lib.hid (K0.out (.cells #[.int .i32 ks, .int .i32 kl] 30))
  clear B0 K0 ne ne2
  generalize w.alloc (.cells #[.int .i32 ks, .int .i32 kl] 30) = W0 at *
  go_loopw [65] (fun i wr => ∃ k : Nat, k ≤ 3 ∧ i = .int .i64 k ∧ Hid (Below W0.heap.size W0 wr) ∧ Hid (∀ j, j < k → sf S j = true)) (fun i _ => 3 - (intOf i).toNat)
  case atStart => exact ⟨0, by omega, rfl, Lib.hid (Below.refl _ _), Lib.hid (fun j hj => absurd hj (by omega))⟩
  case round =>
    obtain ⟨k, hk, rfl, RB, AL⟩ := hrel
    have XB := Lib.hid (BB.out.below RB.out)
    have hg0 : g < wr.heap.size := XB.out.lt
    have ne : ¬ g = wr.heap.size := by omega
    have ne2 : ¬ wr.heap.size = g := by omega
    have hlt2 : k < 3 := by
      rcases Nat.lt_or_eq_of_le hk with h | h
      · exact h
      · obtain ⟨j, hj, h1⟩ := HU.out
        rw [AL.out j (by omega)] at h1
        cases h1

    have q0 : (0 : Int) ≤ (k : Int) := by omega
    have q9 : (k : Int) < 3 := by omega
    obtain ⟨Dl, hD⟩ : ∃ Dl, Dl = cl (S (k + 1)) := ⟨_, rfl⟩
    have hDl : Dl.length = 18 := by rw [hD]; rfl
    have hRD : wr.rangeAt g (18 + k * 18) Dl := by
      have := XB.out.range (k := k + 1) (by omega)
      rw [hD]
      rw [show 18 + k * 18 = (k + 1) * 18 by omega]
      exact this
    have hRD2 : ∀ ob : Obj, (wr.alloc ob).rangeAt g (18 + k * 18) Dl := fun ob => by
      have := (XB.out.alloc ob).range (k := k + 1) (by omega)
      rw [hD]
      rw [show 18 + k * 18 = (k + 1) * 18 by omega]
      exact this
    have hiD : (Tryd.prog.info? 75).map (·.size) = some Dl.length := by rw [hDl]; kernel_rfl
    have ZB := Lib.hid (Blk.new wr 75 #[.pointer none, .string ⟨#[]⟩, .int .i32 0, .int .u32 0, .int .u16 0, .int .u8 0, .int .u8 0, .pointer none, .string ⟨#[]⟩, .int .i32 0, .int .u32 0, .int .u16 0, .int .u8 0, .int .u8 0, .string ⟨#[]⟩, .int .u8 0, .int .u32 0, .bool false])
    have hst := sto (D := Dl) (blk_there ZB.out (show Dl.length ≤ 18 from Nat.le_of_eq hDl)) (by rw [hD]; exact cl_one _)
    have CB := Lib.hid (show ((wr.alloc (.cells #[.pointer none, .string ⟨#[]⟩, .int .i32 0, .int .u32 0, .int .u16 0, .int .u8 0, .int .u8 0, .pointer none, .string ⟨#[]⟩, .int .i32 0, .int .u32 0, .int .u16 0, .int .u8 0, .int .u8 0, .string ⟨#[]⟩, .int .u8 0, .int .u32 0, .bool false] 75)).setCells wr.heap.size 0 Dl).cell? ⟨wr.heap.size, 14, none⟩ = some (.string (S (k + 1)).u) ∧ ((wr.alloc (.cells #[.pointer none, .string ⟨#[]⟩, .int .i32 0, .int .u32 0, .int .u16 0, .int .u8 0, .int .u8 0, .pointer none, .string ⟨#[]⟩, .int .i32 0, .int .u32 0, .int .u16 0, .int .u8 0, .int .u8 0, .string ⟨#[]⟩, .int .u8 0, .int .u32 0, .bool false] 75)).setCells wr.heap.size 0 Dl).cell? ⟨wr.heap.size, 15, none⟩ = some (.int .u8 (S (k + 1)).st) ∧ Tk ((wr.alloc (.cells #[.pointer none, .string ⟨#[]⟩, .int .i32 0, .int .u32 0, .int .u16 0, .int .u8 0, .int .u8 0, .pointer none, .string ⟨#[]⟩, .int .i32 0, .int .u32 0, .int .u16 0, .int .u8 0, .int .u8 0, .string ⟨#[]⟩, .int .u8 0, .int .u32 0, .bool false] 75)).setCells wr.heap.size 0 Dl) g S im ∧ Below W0.heap.size W0 ((wr.alloc (.cells #[.pointer none, .string ⟨#[]⟩, .int .i32 0, .int .u32 0, .int .u16 0, .int .u8 0, .int .u8 0, .pointer none, .string ⟨#[]⟩, .int .i32 0, .int .u32 0, .int .u16 0, .int .u8 0, .int .u8 0, .string ⟨#[]⟩, .int .u8 0, .int .u32 0, .bool false] 75)).setCells wr.heap.size 0 Dl) ∧ wr.heap.size < ((wr.alloc (.cells #[.pointer none, .string ⟨#[]⟩, .int .i32 0, .int .u32 0, .int .u16 0, .int .u8 0, .int .u8 0, .pointer none, .string ⟨#[]⟩, .int .i32 0, .int .u32 0, .int .u16 0, .int .u8 0, .int .u8 0, .string ⟨#[]⟩, .int .u8 0, .int .u32 0, .bool false] 75)).setCells wr.heap.size 0 Dl).heap.size from by
      have h1 := World.rangeAt_setCells_same (wr.alloc (.cells #[.pointer none, .string ⟨#[]⟩, .int .i32 0, .int .u32 0, .int .u16 0, .int .u8 0, .int .u8 0, .pointer none, .string ⟨#[]⟩, .int .i32 0, .int .u32 0, .int .u16 0, .int .u8 0, .int .u8 0, .string ⟨#[]⟩, .int .u8 0, .int .u32 0, .bool false] 75)) wr.heap.size 0 Dl (blk_there ZB.out (show Dl.length ≤ 18 from Nat.le_of_eq hDl))
      have hb : Below wr.heap.size wr ((wr.alloc (.cells #[.pointer none, .string ⟨#[]⟩, .int .i32 0, .int .u32 0, .int .u16 0, .int .u8 0, .int .u8 0, .pointer none, .string ⟨#[]⟩, .int .i32 0, .int .u32 0, .int .u16 0, .int .u8 0, .int .u8 0, .string ⟨#[]⟩, .int .u8 0, .int .u32 0, .bool false] 75)).setCells wr.heap.size 0 Dl) := below_setCells ((Below.refl _ _).alloc (Nat.le_refl _) _) (Nat.le_refl _) _ _
      refine ⟨?_, ?_, XB.out.below hb, RB.out.trans (hb.mono RB.out.size), ?_⟩
      · have := h1 14 (.string (S (k + 1)).u) (by rw [hD]; rfl)
        simpa using this
      · have := h1 15 (.int .u8 (S (k + 1)).st) (by rw [hD]; rfl)
        simpa using this
      · rw [sizeSC]; simp)
    clear hD ZB
    go_upto_region 6 with (first
      | (refine wpList_load_mid rfl 75 _ rfl g (18 + k * 18) rfl Dl _ hRD Tryd.underlying75 rfl hiD ?_)
      | (refine wpList_load_mid rfl 75 _ rfl g (18 + k * 18) rfl Dl _ (hRD2 _) Tryd.underlying75 rfl hiD ?_))
    clear hst hRD hRD2 hiD hDl ne ne2 hg0 RB XB
    generalize (wr.alloc (.cells #[.pointer none, .string ⟨#[]⟩, .int .i32 0, .int .u32 0, .int .u16 0, .int .u8 0, .int .u8 0, .pointer none, .string ⟨#[]⟩, .int .i32 0, .int .u32 0, .int .u16 0, .int .u8 0, .int .u8 0, .string ⟨#[]⟩, .int .u8 0, .int .u32 0, .bool false] 75)).setCells wr.heap.size 0 Dl = W1 at *
    generalize wr.heap.size = cb at *
    have hcb := CB.out.2.2.2.2
    have hg1 : g < W1.heap.size := CB.out.2.2.1.lt
    go_cut [78] from 66 to 78 (fun s wx => s = .bool (!sf S k) ∧ Hid (Below W1.heap.size W1 wx))
    case first =>
      have START := Lib.hid (show PJ W1 cb 14 g 14 (S (k + 1)).u (S (k + 1)).st (S 0).u (S 0).st W1.drew from ⟨(Below.refl _ _).drew, hcb, hg1, CB.out.1, CB.out.2.1, CB.out.2.2.1.at (k := 0) (d := 14) (by omega) (by omega), CB.out.2.2.1.at (k := 0) (d := 15) (by omega) (by omega)⟩)
      have STEP := Lib.hid (fun w1 w2 (h : PJ W1 cb 14 g 14 (S (k + 1)).u (S (k + 1)).st (S 0).u (S 0).st w1) (hb : Below w1.heap.size w1 w2) => h.step hb)
      go_region_held3 (fun w' => Below W1.heap.size W1 w' ∧ cb < W1.heap.size ∧ g < W1.heap.size ∧ w'.cell? ⟨cb, 14, none⟩ = some (.string (S (k + 1)).u) ∧ w'.cell? ⟨cb, 15, none⟩ = some (.int .u8 (S (k + 1)).st) ∧ w'.cell? ⟨g, 14, none⟩ = some (.string (S 0).u) ∧ w'.cell? ⟨g, 15, none⟩ = some (.int .u8 (S 0).st))
        (first | assumption | exact START.out)
        (first | (go_at_call 35; refine (safe17 _ _ _ _ _).mono ?_; rintro e_ w9 ⟨rfl, hb9⟩; have hI := STEP.out _ _ (by assumption) hb9; clear hb9; unfold PJ at hI))
      all_goals
        go_wp2_with fail
        go_meet
        exact ⟨rfl, Lib.hid (And.left (show PJ W1 cb 14 g 14 (S (k + 1)).u (S (k + 1)).st (S 0).u (S 0).st w9 by assumption))⟩
    case rest =>
      obtain ⟨rfl, hbc⟩ := hcut
      have RB2 := Lib.hid (CB.out.2.2.2.1.trans (hbc.out.mono CB.out.2.2.2.1.size))
      clear hbc CB
      cases hs : sf S k
      case true =>
        have AL2 := Lib.hid (sf_step AL.out hs)
        clear hs AL
        go_wp2_with fail
        go_roundw
        case rel => exact ⟨k + 1, by omega, by go_num, RB2, AL2⟩
        case measure => simp [intOf]; omega
      case false =>
        go_wp2_with fail
        first
          | refine bodyPost_end (results_none rfl _ _ _) rfl ?_
          | refine bodyPost_ret (results_none rfl _ _ _) rfl ?_
        exact ⟨rfl, BK.out.trans (RB2.out.mono BK.out.size)⟩
/-- compactRules does nothing. -/
theorem comp_no (g : Nat) (B : Option Addr) (n c : Nat) (S : Nat → Cn) (im : Bool) (ks kl : Int) (mw : Bool) (w : World) (hf : fires S = false) (hb : Tk w g S im) :
    Calls Tryd.prog 29 #[.pointer (some ⟨g, 0, none⟩), .slice B n c, .agg #[.int .i32 ks, .int .i32 kl], .bool mw] w fun e w' => e = .returned (.tuple #[]) ∧ Below w.heap.size w w' := by
  cases q1 : ((S 0).k == 0)
  · cases q2 : ((S 1).k == 0)
    · cases q3 : ((S 2).k == 0)
      · cases q4 : ((S 3).k == 0)
        · refine comp_unlike g B n c S im ks kl mw w q1 q2 q3 q4 ?_ hb
          unfold fires at hf
          rw [q1, q2, q3, q4] at hf
          cases s0 : sf S 0
          · exact ⟨0, by omega, s0⟩
          · cases s1 : sf S 1
            · exact ⟨1, by omega, s1⟩
            · refine ⟨2, by omega, ?_⟩
              unfold sf at s0 s1 ⊢
              rw [s0, s1] at hf
              simpa using hf
        · exact comp29e g S im mw B n c ks kl w hb (.inr (.inr (.inr (by simpa using q4))))
      · exact comp29e g S im mw B n c ks kl w hb (.inr (.inr (.inl (by simpa using q3))))
    · exact comp29e g S im mw B n c ks kl w hb (.inr (.inl (by simpa using q2)))
  · exact comp29e g S im mw B n c ks kl w hb (.inl (by simpa using q1))
end Go.Proofs.YtnolnlekdlfeaaaDoor.ZT
