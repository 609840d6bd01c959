/- zzUnchanged, and the wrapper of compactRules. Written by gen_boxf.py. -/
import Derived.Test.YtioilpdjfplffaaRc
import Derived.Test.YtioilpdjfplffaaRd
import Derived.Test.YtioilpdjfplffaaRe
import Derived.LaidEqlPtr
namespace Go.Proofs.Ytioilpdjfplffaa.ZT
open Go.RowKit Go.Proofs.Ytioilpdjfplffaa.TB
set_option linter.unusedVariables false
set_option linter.unusedSimpArgs false
theorem decl_some (d : Nat) (l : Int) (w : World) : Calls Try.prog 12 #[.agg #[.iface 30 (.pointer (some ⟨d, 0, none⟩)), .int .i32 l]] w fun e w' => e = .returned (.pointer (some ⟨d, 0, none⟩)) ∧ Below w.heap.size w w' := decl12 (some d) l w
theorem decl_none (l : Int) (w : World) : Calls Try.prog 12 #[.agg #[.nilIface, .int .i32 l]] w fun e w' => e = .returned (.pointer none) ∧ Below w.heap.size w w' := decl12 none l w
theorem has_some (d : Nat) (l : Int) (w : World) : Calls Try.prog 13 #[.agg #[.iface 30 (.pointer (some ⟨d, 0, none⟩)), .int .i32 l]] w fun e w' => e = .returned (.bool true) ∧ Below w.heap.size w w' := has13 (some d) l w
theorem has_none (l : Int) (w : World) : Calls Try.prog 13 #[.agg #[.nilIface, .int .i32 l]] w fun e w' => e = .returned (.bool false) ∧ Below w.heap.size w w' := has13 none l w
set_option maxRecDepth 100000 in
set_option maxHeartbeats 2000000 in
theorem wrap10_yes (g rg n c : Nat) (kt : ByteArray) (S : Nat → Sd) (au im : Bool) (key ks kl : Int) (mw : Bool) (D : Nat → Option Nat) (Lc : Nat → Int) (w : World) (hf : fires key S = true)
    (hb : Box w g kt S au im key) (ht : Tab w rg 48 2 n (rc D Lc)) (hg : g ≠ rg) (R : Nat → Nat) (hr : ∀ s, s < 4 → (S s).r = (R s : Int)) (hn : ∀ s, s < 4 → R s < n) :
    Calls Try.prog 10 #[.pointer (some ⟨g, 0, none⟩), .slice (some ⟨rg, 0, none⟩) n c, .agg #[.int .i32 ks, .int .i32 kl], .bool mw] w (Comp18 rg n kt S im key ks kl mw D Lc R w) := by
  have HC := Lib.hid (fun (ob : Obj) => compact_yes g rg n c kt S au im key ks kl mw D Lc (w.alloc ob) hf (hb.alloc ob) (ht.alloc ob) hg R hr hn)
  have HK := Lib.hid (fun (ob : Obj) => show Kept w.heap.size rg w (w.alloc ob) from (Kept.refl _ _ _).alloc (Nat.le_refl _) ob)
  clear hf hb ht hr hn
  go_enter Try.func10, Try.ntmps10
  go_wp2_with fail
  refine (HC.out _).mono ?_
  rintro e w9 ⟨rfl, d, tg, W', h1, h2, h3, h4, h5, h6⟩
  have H1 := Lib.hid h1
  have H2 := Lib.hid h2
  have H3 := Lib.hid h3
  have H4 := Lib.hid h4
  have H5 := Lib.hid ((HK.out _).trans (h5.mono (by simp)))
  have H6 := Lib.hid h6
  clear h1 h2 h3 h4 h5 h6
  go_wp2_with fail
  refine bodyPost_end (results_none rfl _ _ _) rfl ?_
  exact ⟨rfl, d, tg, W', H1.out, H2.out, H3.out, H4.out, H5.out, Nat.le_trans (by simp) H6.out⟩
set_option maxRecDepth 100000 in
set_option maxHeartbeats 2000000 in
theorem wrap10_no (g rg n c : Nat) (kt : ByteArray) (S : Nat → Sd) (au im : Bool) (key ks kl : Int) (mw : Bool) (w : World) (hb : Box w g kt S au im key) (hf : fires key S = false) :
    Calls Try.prog 10 #[.pointer (some ⟨g, 0, none⟩), .slice (some ⟨rg, 0, none⟩) n c, .agg #[.int .i32 ks, .int .i32 kl], .bool mw] w fun e w' => e = .returned (.tuple #[]) ∧ Below w.heap.size w w' := by
  have HC := Lib.hid (fun (ob : Obj) => compact_no g rg n c kt S au im key ks kl mw (w.alloc ob) (hb.alloc ob) hf)
  have HK := Lib.hid (fun (ob : Obj) => show Below w.heap.size w (w.alloc ob) from (Below.refl _ _).alloc (Nat.le_refl _) ob)
  clear hf hb
  go_enter Try.func10, Try.ntmps10
  go_wp2_with fail
  refine (HC.out _).mono ?_
  rintro e w9 ⟨rfl, h5⟩
  have H5 := Lib.hid ((HK.out _).trans (h5.mono (by simp)))
  clear h5
  go_wp2_with fail
  refine bodyPost_end (results_none rfl _ _ _) rfl ?_
  exact ⟨rfl, H5.out⟩
theorem neq_same (a : Addr) (W : World) : (binOp .neq 30 (.pointer (some a)) (.pointer (some a))).run Try.prog W = .ok (.bool false) W := by
  obtain ⟨j, hte⟩ : ∃ j, Try.prog.info? 44 = some j := Option.isSome_iff_exists.1 (by kernel_rfl)
  have h : ∀ d : Nat, (Op.equalIn (d + 1) 30 (.pointer (some a)) (.pointer (some a))).run Try.prog W = .ok true W := fun d => by
    simp [Op.equalIn, run_underlying Try.underlying30, sizeOf, typeInfo, hte, run_sameAddr_same]
  simp only [binOp]
  simp [Op.equal, Op.maxDepth, h 9999]
def UJ (rg dg og k : Nat) (d : Nat → Nat) (Lc : Nat → Int) (wr w' : World) : Prop :=
  Below wr.heap.size wr w' ∧ rg < wr.heap.size ∧ dg < wr.heap.size ∧ og < wr.heap.size ∧ w'.cell? ⟨rg, k * 2, none⟩ = some (.iface 30 (.pointer (some ⟨d k, 0, none⟩))) ∧ w'.cell? ⟨rg, k * 2 + 1, none⟩ = some (.int .i32 (Lc k)) ∧ w'.cell? ⟨dg, k, none⟩ = some (.pointer (some ⟨d k, 0, none⟩)) ∧ w'.cell? ⟨og, k, none⟩ = some (.int .i32 (Lc k))
theorem UJ.step {rg dg og k : Nat} {d : Nat → Nat} {Lc : Nat → Int} {wr w1 w2 : World} (h : UJ rg dg og k d Lc wr w1) (hb : Below w1.heap.size w1 w2) : UJ rg dg og k d Lc wr w2 := by
  obtain ⟨h0, h1, h2, h3, x0, x1, x2, x3⟩ := h
  have z := h0.size
  exact ⟨h0.trans (hb.mono h0.size), h1, h2, h3, (hb.cell (p := ⟨rg, k * 2, none⟩) (by show rg < _; omega)).trans x0, (hb.cell (p := ⟨rg, k * 2 + 1, none⟩) (by show rg < _; omega)).trans x1, (hb.cell (p := ⟨dg, k, none⟩) (by show dg < _; omega)).trans x2, (hb.cell (p := ⟨og, k, none⟩) (by show og < _; omega)).trans x3⟩
set_option maxRecDepth 100000 in
set_option maxHeartbeats 4000000 in
theorem unch11 (rg dg og n c1 c2 c3 : Nat) (d : Nat → Nat) (Lc : Nat → Int) (w : World) (hn : n ≤ 4096) (h1 : Tab w rg 48 2 n (rc (fun i => some (d i)) Lc)) (h2 : Tab w dg 30 1 n (fun i _ => .pointer (some ⟨d i, 0, none⟩))) (h3 : Tab w og 21 1 n (fun i _ => .int .i32 (Lc i))) :
    Calls Try.prog 11 #[.slice (some ⟨rg, 0, none⟩) n c1, .slice (some ⟨dg, 0, none⟩) n c2, .slice (some ⟨og, 0, none⟩) n c3] w fun e w' => e = .returned (.bool true) ∧ Below w.heap.size w w' := by
  have H1 := Lib.hid h1
  have H2 := Lib.hid h2
  have H3 := Lib.hid h3
  clear h1 h2 h3
  go_enter Try.func11, Try.ntmps11
  go_wp2_with fail
  go_loopw [7] (fun i wr => ∃ k : Nat, k ≤ n ∧ i = .int .i64 k ∧ Hid (Below w.heap.size w wr)) (fun i _ => n - (intOf i).toNat)
  case atStart => exact ⟨0, by omega, rfl, Lib.hid (Below.refl _ _)⟩
  case round =>
    obtain ⟨k, hk, rfl, RB⟩ := hrel
    by_cases hlt : k < n
    · have T1 := Lib.hid (H1.out.below RB.out H1.out.lt)
      have T2 := Lib.hid (H2.out.below RB.out H2.out.lt)
      have T3 := Lib.hid (H3.out.below RB.out H3.out.lt)
      have q1 : (0 : Int) ≤ (k : Int) := by omega
      have q2 : (k : Int) < (n : Int) := by omega
      have hpe := fun W => neq_same ⟨d k, 0, none⟩ W
      go_upto_region 4 with fail
      have START := Lib.hid (show UJ rg dg og k d Lc wr wr.drew from ⟨(Below.refl _ _).drew, T1.out.lt, T2.out.lt, T3.out.lt, T1.out.cell (i := k) (j := 0) hlt (by omega), T1.out.cell (i := k) (j := 1) hlt (by omega), by have := T2.out.cell (i := k) (j := 0) hlt (by omega); rw [Nat.mul_one] at this; exact this, by have := T3.out.cell (i := k) (j := 0) hlt (by omega); rw [Nat.mul_one] at this; exact this⟩)
      have STEP := Lib.hid (fun w1 w2 (h : UJ rg dg og k d Lc wr w1) (hb : Below w1.heap.size w1 w2) => h.step hb)
      go_cut [36] (fun s wx => s = .bool false ∧ Hid (Below wr.heap.size wr wx))
      case first =>
        go_region_held3 (fun w' => Below wr.heap.size wr w' ∧ rg < wr.heap.size ∧ dg < wr.heap.size ∧ og < wr.heap.size ∧ w'.cell? ⟨rg, k * 2, none⟩ = some (.iface 30 (.pointer (some ⟨d k, 0, none⟩))) ∧ w'.cell? ⟨rg, k * 2 + 1, none⟩ = some (.int .i32 (Lc k)) ∧ w'.cell? ⟨dg, k, none⟩ = some (.pointer (some ⟨d k, 0, none⟩)) ∧ w'.cell? ⟨og, k, none⟩ = some (.int .i32 (Lc k)))
          (first | assumption | exact START.out)
          (first | (go_at_call 12; refine (decl_some _ _ _).mono ?_; rintro e_ w9 ⟨rfl, hb9⟩; have hI := STEP.out _ _ (by assumption) hb9; clear hb9; unfold UJ at hI))
        all_goals
          go_wp2_with fail
          go_meet
          exact ⟨rfl, Lib.hid (And.left (show UJ rg dg og k d Lc wr w9 by assumption))⟩
      case rest =>
        obtain ⟨rfl, hbc⟩ := hcut
        have RB2 := Lib.hid (RB.out.trans (hbc.out.mono RB.out.size))
        clear hbc RB START STEP T1 T2 T3
        go_wp2_with fail
        go_roundw
        case rel => exact ⟨k + 1, by omega, by go_num, RB2⟩
        case measure => simp [intOf]; omega
    · go_wp2_with fail
      go_ret
      exact ⟨rfl, RB.out⟩
end Go.Proofs.Ytioilpdjfplffaa.ZT
