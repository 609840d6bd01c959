/- compactRules where it makes the shorthand. Written by gen_boxc.py. -/
import Derived.Test.YtioilpdjfplffaaRp
namespace Go.Proofs.Ytioilpdjfplffaa.ZT
open Go.RowKit Go.Proofs.Ytioilpdjfplffaa.TB
set_option linter.unusedVariables false
set_option maxRecDepth 100000 in
set_option maxHeartbeats 8000000 in
theorem compact_yes (g rg n c : Nat) (kt : ByteArray) (S : Nat → Sd) (au im : Bool) (key ks kl : Int) (mw : Bool) (D : Nat → Option Nat) (Lc : Nat → Int) (w : World) (hf : fires key S = true)
    (hb : Box w g kt S au im key) (ht : Tab w rg 48 2 n (rc D Lc)) (hg : g ≠ rg) (R : Nat → Nat) (hr : ∀ s, s < 4 → (S s).r = (R s : Int)) (hn : ∀ s, s < 4 → R s < n) :
    Calls Try.prog 18 #[.pointer (some ⟨g, 0, none⟩), .slice (some ⟨rg, 0, none⟩) n c, .agg #[.int .i32 ks, .int .i32 kl], .bool mw] w
      (Comp18 rg n kt S im key ks kl mw D Lc R w) := by
  have hf' := hf
  simp only [fires, Bool.and_eq_true, Bool.not_eq_true'] at hf'
  obtain ⟨q0, q1, q2, q3, q4, s1, s2, s3⟩ := hf'
  have AL := Lib.hid (show ∀ k, k < 3 → sf S k = true from fun k hk => by rcases three hk with rfl | rfl | rfl <;> assumption)
  clear hf s1 s2 s3
  have HB := Lib.hid hb
  have HR := Lib.hid hr
  have HN := Lib.hid hn
  clear hr hn
  have HT := Lib.hid ht
  have hlt : g < w.heap.size := hb.lt
  have hlr : rg < w.heap.size := ht.lt
  clear hb ht
  have B0 := Lib.hid (fun (ob : Obj) => show Box (w.alloc ob) g kt S au im key from HB.out.alloc ob)
  have T0 := Lib.hid (fun (ob : Obj) => show Tab (w.alloc ob) rg 48 2 n (rc D Lc) from HT.out.alloc ob)
  have K0 := Lib.hid (fun (ob : Obj) => show Kept w.heap.size rg w (w.alloc ob) from (Kept.refl _ _ _).alloc (Nat.le_refl _) ob)
  have ne : ¬ g = w.heap.size := by omega
  have ne2 : ¬ w.heap.size = g := by omega
  have c6 : w.cell? ⟨g, 6, none⟩ = some (.int .u8 (S 0).k) := HB.out.cell 6
  have c17 : w.cell? ⟨g, 17, none⟩ = some (.int .u8 (S 1).k) := HB.out.cell 17
  have c28 : w.cell? ⟨g, 28, none⟩ = some (.int .u8 (S 2).k) := HB.out.cell 28
  have c39 : w.cell? ⟨g, 39, none⟩ = some (.int .u8 (S 3).k) := HB.out.cell 39
  have c47 : w.cell? ⟨g, 47, none⟩ = some (.int .u16 key) := HB.out.cell 47
  go_enter Try.func18, Try.ntmps18
  go_wp2
  clear c6 c17 c28 c39 c47
  have BB := Lib.hid (B0.out (.cells #[.int .i32 ks, .int .i32 kl] 42))
  have BT := Lib.hid (T0.out (.cells #[.int .i32 ks, .int .i32 kl] 42))
  have BK := Lib.hid (K0.out (.cells #[.int .i32 ks, .int .i32 kl] 42))
  have BR := Lib.hid (show Blk (w.alloc (.cells #[.int .i32 ks, .int .i32 kl] 42)) w.heap.size 42 #[.int .i32 ks, .int .i32 kl] from Blk.new w 42 _)
  clear B0 T0 K0 ne ne2
  generalize w.alloc (.cells #[.int .i32 ks, .int .i32 kl] 42) = W0 at *
  go_loopw [68] (fun i wr => ∃ k : Nat, k ≤ 3 ∧ i = .int .i64 k ∧ Hid (Below W0.heap.size W0 wr)) (fun i _ => 3 - (intOf i).toNat)
  case atStart => exact ⟨0, by omega, rfl, Lib.hid (Below.refl _ _)⟩
  case round =>
    obtain ⟨k, hk, rfl, RB⟩ := hrel
    have XB := Lib.hid (BB.out.below RB.out BB.out.lt)
    have hg0 : g < wr.heap.size := XB.out.lt
    have ne : ¬ g = wr.heap.size := by omega
    have ne2 : ¬ wr.heap.size = g := by omega
    by_cases hlt2 : k < 3
    · rcases three hlt2 with rfl | rfl | rfl

      · as_aux_lemma =>
        have c12 : wr.cell? ⟨g, 12, none⟩ = some (.pointer none) := XB.out.cell 12
        have c13 : wr.cell? ⟨g, 13, none⟩ = some (.string (S 1).t) := XB.out.cell 13
        have c14 : wr.cell? ⟨g, 14, none⟩ = some (.int .i32 (S 1).l) := XB.out.cell 14
        have c15 : wr.cell? ⟨g, 15, none⟩ = some (.int .u32 0) := XB.out.cell 15
        have c16 : wr.cell? ⟨g, 16, none⟩ = some (.int .u16 0) := XB.out.cell 16
        have c17 : wr.cell? ⟨g, 17, none⟩ = some (.int .u8 (S 1).k) := XB.out.cell 17
        have c18 : wr.cell? ⟨g, 18, none⟩ = some (.int .u8 (S 1).ws) := XB.out.cell 18
        have c19 : wr.cell? ⟨g, 19, none⟩ = some (.string (S 1).u) := XB.out.cell 19
        have c20 : wr.cell? ⟨g, 20, none⟩ = some (.int .u8 (S 1).st) := XB.out.cell 20
        have c21 : wr.cell? ⟨g, 21, none⟩ = some (.int .u32 ((R 1 : Nat) : Int)) := by rw [← HR.out 1 (by omega)]; exact XB.out.cell 21
        have c22 : wr.cell? ⟨g, 22, none⟩ = some (.bool (S 1).b) := XB.out.cell 22
        go_upto_region 7 with fail
        have CB := Lib.hid (show Blk (wr.alloc (.cells #[.pointer none, .string (S 1).t, .int .i32 (S 1).l, .int .u32 0, .int .u16 0, .int .u8 (S 1).k, .int .u8 (S 1).ws, .string (S 1).u, .int .u8 (S 1).st, .int .u32 ((R 1 : Nat) : Int), .bool (S 1).b] 73)) wr.heap.size 73 #[.pointer none, .string (S 1).t, .int .i32 (S 1).l, .int .u32 0, .int .u16 0, .int .u8 (S 1).k, .int .u8 (S 1).ws, .string (S 1).u, .int .u8 (S 1).st, .int .u32 ((R 1 : Nat) : Int), .bool (S 1).b] from Blk.new wr 73 _)
        have CX := Lib.hid (show Box (wr.alloc (.cells #[.pointer none, .string (S 1).t, .int .i32 (S 1).l, .int .u32 0, .int .u16 0, .int .u8 (S 1).k, .int .u8 (S 1).ws, .string (S 1).u, .int .u8 (S 1).st, .int .u32 ((R 1 : Nat) : Int), .bool (S 1).b] 73)) g kt S au im key from XB.out.alloc _)
        have CR := Lib.hid (show Below W0.heap.size W0 (wr.alloc (.cells #[.pointer none, .string (S 1).t, .int .i32 (S 1).l, .int .u32 0, .int .u16 0, .int .u8 (S 1).k, .int .u8 (S 1).ws, .string (S 1).u, .int .u8 (S 1).st, .int .u32 ((R 1 : Nat) : Int), .bool (S 1).b] 73)) from RB.out.alloc RB.out.size _)
        have hcb : wr.heap.size < (wr.alloc (.cells #[.pointer none, .string (S 1).t, .int .i32 (S 1).l, .int .u32 0, .int .u16 0, .int .u8 (S 1).k, .int .u8 (S 1).ws, .string (S 1).u, .int .u8 (S 1).st, .int .u32 ((R 1 : Nat) : Int), .bool (S 1).b] 73)).heap.size := by simp
        have hg1 : g < (wr.alloc (.cells #[.pointer none, .string (S 1).t, .int .i32 (S 1).l, .int .u32 0, .int .u16 0, .int .u8 (S 1).k, .int .u8 (S 1).ws, .string (S 1).u, .int .u8 (S 1).st, .int .u32 ((R 1 : Nat) : Int), .bool (S 1).b] 73)).heap.size := CX.out.lt
        clear c12 c13 c14 c15 c16 c17 c18 c19 c20 c21 c22 RB XB ne ne2 hg0
        generalize wr.alloc (.cells #[.pointer none, .string (S 1).t, .int .i32 (S 1).l, .int .u32 0, .int .u16 0, .int .u8 (S 1).k, .int .u8 (S 1).ws, .string (S 1).u, .int .u8 (S 1).st, .int .u32 ((R 1 : Nat) : Int), .bool (S 1).b] 73) = W1 at *
        generalize wr.heap.size = cb at *
        go_cut [81] (fun s wx => s = .bool (!sf S 0) ∧ Hid (Below W1.heap.size W1 wx))
        case first =>
          have START := Lib.hid (show PJ W1 cb 7 g 8 (S 1).u (S 1).st (S 0).u (S 0).st W1.drew from ⟨(Below.refl _ _).drew, hcb, hg1, CB.out.cell 7, CB.out.cell 8, CX.out.cell 8, CX.out.cell 9⟩)
          have STEP := Lib.hid (fun w1 w2 (h : PJ W1 cb 7 g 8 (S 1).u (S 1).st (S 0).u (S 0).st w1) (hb : Below w1.heap.size w1 w2) => h.step hb)
          go_region_held3 (fun w' => Below W1.heap.size W1 w' ∧ cb < W1.heap.size ∧ g < W1.heap.size ∧ w'.cell? ⟨cb, 7, none⟩ = some (.string (S 1).u) ∧ w'.cell? ⟨cb, 8, none⟩ = some (.int .u8 (S 1).st) ∧ w'.cell? ⟨g, 8, none⟩ = some (.string (S 0).u) ∧ w'.cell? ⟨g, 9, none⟩ = some (.int .u8 (S 0).st))
            (first | assumption | exact START.out)
            (first | (go_at_call 22; refine (safe22 _ _ _ _ _).mono ?_; rintro e_ w9 ⟨rfl, hb9⟩; have hI := STEP.out _ _ (by assumption) hb9; clear hb9; unfold PJ at hI))
          all_goals
            go_wp2_with fail
            go_meet
            exact ⟨rfl, Lib.hid (And.left (show PJ W1 cb 7 g 8 (S 1).u (S 1).st (S 0).u (S 0).st w9 by assumption))⟩
        case rest =>
          obtain ⟨rfl, hbc⟩ := hcut
          rw [AL.out 0 (by omega)]
          have RB2 := Lib.hid (CR.out.trans (hbc.out.mono CR.out.size))
          clear hbc CR CX CB
          go_wp2_with fail
          go_roundw
          case rel => exact ⟨1, by omega, by go_num, RB2⟩
          case measure => simp [intOf]
      · as_aux_lemma =>
        have c23 : wr.cell? ⟨g, 23, none⟩ = some (.pointer none) := XB.out.cell 23
        have c24 : wr.cell? ⟨g, 24, none⟩ = some (.string (S 2).t) := XB.out.cell 24
        have c25 : wr.cell? ⟨g, 25, none⟩ = some (.int .i32 (S 2).l) := XB.out.cell 25
        have c26 : wr.cell? ⟨g, 26, none⟩ = some (.int .u32 0) := XB.out.cell 26
        have c27 : wr.cell? ⟨g, 27, none⟩ = some (.int .u16 0) := XB.out.cell 27
        have c28 : wr.cell? ⟨g, 28, none⟩ = some (.int .u8 (S 2).k) := XB.out.cell 28
        have c29 : wr.cell? ⟨g, 29, none⟩ = some (.int .u8 (S 2).ws) := XB.out.cell 29
        have c30 : wr.cell? ⟨g, 30, none⟩ = some (.string (S 2).u) := XB.out.cell 30
        have c31 : wr.cell? ⟨g, 31, none⟩ = some (.int .u8 (S 2).st) := XB.out.cell 31
        have c32 : wr.cell? ⟨g, 32, none⟩ = some (.int .u32 ((R 2 : Nat) : Int)) := by rw [← HR.out 2 (by omega)]; exact XB.out.cell 32
        have c33 : wr.cell? ⟨g, 33, none⟩ = some (.bool (S 2).b) := XB.out.cell 33
        go_upto_region 7 with fail
        have CB := Lib.hid (show Blk (wr.alloc (.cells #[.pointer none, .string (S 2).t, .int .i32 (S 2).l, .int .u32 0, .int .u16 0, .int .u8 (S 2).k, .int .u8 (S 2).ws, .string (S 2).u, .int .u8 (S 2).st, .int .u32 ((R 2 : Nat) : Int), .bool (S 2).b] 73)) wr.heap.size 73 #[.pointer none, .string (S 2).t, .int .i32 (S 2).l, .int .u32 0, .int .u16 0, .int .u8 (S 2).k, .int .u8 (S 2).ws, .string (S 2).u, .int .u8 (S 2).st, .int .u32 ((R 2 : Nat) : Int), .bool (S 2).b] from Blk.new wr 73 _)
        have CX := Lib.hid (show Box (wr.alloc (.cells #[.pointer none, .string (S 2).t, .int .i32 (S 2).l, .int .u32 0, .int .u16 0, .int .u8 (S 2).k, .int .u8 (S 2).ws, .string (S 2).u, .int .u8 (S 2).st, .int .u32 ((R 2 : Nat) : Int), .bool (S 2).b] 73)) g kt S au im key from XB.out.alloc _)
        have CR := Lib.hid (show Below W0.heap.size W0 (wr.alloc (.cells #[.pointer none, .string (S 2).t, .int .i32 (S 2).l, .int .u32 0, .int .u16 0, .int .u8 (S 2).k, .int .u8 (S 2).ws, .string (S 2).u, .int .u8 (S 2).st, .int .u32 ((R 2 : Nat) : Int), .bool (S 2).b] 73)) from RB.out.alloc RB.out.size _)
        have hcb : wr.heap.size < (wr.alloc (.cells #[.pointer none, .string (S 2).t, .int .i32 (S 2).l, .int .u32 0, .int .u16 0, .int .u8 (S 2).k, .int .u8 (S 2).ws, .string (S 2).u, .int .u8 (S 2).st, .int .u32 ((R 2 : Nat) : Int), .bool (S 2).b] 73)).heap.size := by simp
        have hg1 : g < (wr.alloc (.cells #[.pointer none, .string (S 2).t, .int .i32 (S 2).l, .int .u32 0, .int .u16 0, .int .u8 (S 2).k, .int .u8 (S 2).ws, .string (S 2).u, .int .u8 (S 2).st, .int .u32 ((R 2 : Nat) : Int), .bool (S 2).b] 73)).heap.size := CX.out.lt
        clear c23 c24 c25 c26 c27 c28 c29 c30 c31 c32 c33 RB XB ne ne2 hg0
        generalize wr.alloc (.cells #[.pointer none, .string (S 2).t, .int .i32 (S 2).l, .int .u32 0, .int .u16 0, .int .u8 (S 2).k, .int .u8 (S 2).ws, .string (S 2).u, .int .u8 (S 2).st, .int .u32 ((R 2 : Nat) : Int), .bool (S 2).b] 73) = W1 at *
        generalize wr.heap.size = cb at *
        go_cut [81] (fun s wx => s = .bool (!sf S 1) ∧ Hid (Below W1.heap.size W1 wx))
        case first =>
          have START := Lib.hid (show PJ W1 cb 7 g 8 (S 2).u (S 2).st (S 0).u (S 0).st W1.drew from ⟨(Below.refl _ _).drew, hcb, hg1, CB.out.cell 7, CB.out.cell 8, CX.out.cell 8, CX.out.cell 9⟩)
          have STEP := Lib.hid (fun w1 w2 (h : PJ W1 cb 7 g 8 (S 2).u (S 2).st (S 0).u (S 0).st w1) (hb : Below w1.heap.size w1 w2) => h.step hb)
          go_region_held3 (fun w' => Below W1.heap.size W1 w' ∧ cb < W1.heap.size ∧ g < W1.heap.size ∧ w'.cell? ⟨cb, 7, none⟩ = some (.string (S 2).u) ∧ w'.cell? ⟨cb, 8, none⟩ = some (.int .u8 (S 2).st) ∧ w'.cell? ⟨g, 8, none⟩ = some (.string (S 0).u) ∧ w'.cell? ⟨g, 9, none⟩ = some (.int .u8 (S 0).st))
            (first | assumption | exact START.out)
            (first | (go_at_call 22; refine (safe22 _ _ _ _ _).mono ?_; rintro e_ w9 ⟨rfl, hb9⟩; have hI := STEP.out _ _ (by assumption) hb9; clear hb9; unfold PJ at hI))
          all_goals
            go_wp2_with fail
            go_meet
            exact ⟨rfl, Lib.hid (And.left (show PJ W1 cb 7 g 8 (S 2).u (S 2).st (S 0).u (S 0).st w9 by assumption))⟩
        case rest =>
          obtain ⟨rfl, hbc⟩ := hcut
          rw [AL.out 1 (by omega)]
          have RB2 := Lib.hid (CR.out.trans (hbc.out.mono CR.out.size))
          clear hbc CR CX CB
          go_wp2_with fail
          go_roundw
          case rel => exact ⟨2, by omega, by go_num, RB2⟩
          case measure => simp [intOf]
      · as_aux_lemma =>
        have c34 : wr.cell? ⟨g, 34, none⟩ = some (.pointer none) := XB.out.cell 34
        have c35 : wr.cell? ⟨g, 35, none⟩ = some (.string (S 3).t) := XB.out.cell 35
        have c36 : wr.cell? ⟨g, 36, none⟩ = some (.int .i32 (S 3).l) := XB.out.cell 36
        have c37 : wr.cell? ⟨g, 37, none⟩ = some (.int .u32 0) := XB.out.cell 37
        have c38 : wr.cell? ⟨g, 38, none⟩ = some (.int .u16 0) := XB.out.cell 38
        have c39 : wr.cell? ⟨g, 39, none⟩ = some (.int .u8 (S 3).k) := XB.out.cell 39
        have c40 : wr.cell? ⟨g, 40, none⟩ = some (.int .u8 (S 3).ws) := XB.out.cell 40
        have c41 : wr.cell? ⟨g, 41, none⟩ = some (.string (S 3).u) := XB.out.cell 41
        have c42 : wr.cell? ⟨g, 42, none⟩ = some (.int .u8 (S 3).st) := XB.out.cell 42
        have c43 : wr.cell? ⟨g, 43, none⟩ = some (.int .u32 ((R 3 : Nat) : Int)) := by rw [← HR.out 3 (by omega)]; exact XB.out.cell 43
        have c44 : wr.cell? ⟨g, 44, none⟩ = some (.bool (S 3).b) := XB.out.cell 44
        go_upto_region 7 with fail
        have CB := Lib.hid (show Blk (wr.alloc (.cells #[.pointer none, .string (S 3).t, .int .i32 (S 3).l, .int .u32 0, .int .u16 0, .int .u8 (S 3).k, .int .u8 (S 3).ws, .string (S 3).u, .int .u8 (S 3).st, .int .u32 ((R 3 : Nat) : Int), .bool (S 3).b] 73)) wr.heap.size 73 #[.pointer none, .string (S 3).t, .int .i32 (S 3).l, .int .u32 0, .int .u16 0, .int .u8 (S 3).k, .int .u8 (S 3).ws, .string (S 3).u, .int .u8 (S 3).st, .int .u32 ((R 3 : Nat) : Int), .bool (S 3).b] from Blk.new wr 73 _)
        have CX := Lib.hid (show Box (wr.alloc (.cells #[.pointer none, .string (S 3).t, .int .i32 (S 3).l, .int .u32 0, .int .u16 0, .int .u8 (S 3).k, .int .u8 (S 3).ws, .string (S 3).u, .int .u8 (S 3).st, .int .u32 ((R 3 : Nat) : Int), .bool (S 3).b] 73)) g kt S au im key from XB.out.alloc _)
        have CR := Lib.hid (show Below W0.heap.size W0 (wr.alloc (.cells #[.pointer none, .string (S 3).t, .int .i32 (S 3).l, .int .u32 0, .int .u16 0, .int .u8 (S 3).k, .int .u8 (S 3).ws, .string (S 3).u, .int .u8 (S 3).st, .int .u32 ((R 3 : Nat) : Int), .bool (S 3).b] 73)) from RB.out.alloc RB.out.size _)
        have hcb : wr.heap.size < (wr.alloc (.cells #[.pointer none, .string (S 3).t, .int .i32 (S 3).l, .int .u32 0, .int .u16 0, .int .u8 (S 3).k, .int .u8 (S 3).ws, .string (S 3).u, .int .u8 (S 3).st, .int .u32 ((R 3 : Nat) : Int), .bool (S 3).b] 73)).heap.size := by simp
        have hg1 : g < (wr.alloc (.cells #[.pointer none, .string (S 3).t, .int .i32 (S 3).l, .int .u32 0, .int .u16 0, .int .u8 (S 3).k, .int .u8 (S 3).ws, .string (S 3).u, .int .u8 (S 3).st, .int .u32 ((R 3 : Nat) : Int), .bool (S 3).b] 73)).heap.size := CX.out.lt
        clear c34 c35 c36 c37 c38 c39 c40 c41 c42 c43 c44 RB XB ne ne2 hg0
        generalize wr.alloc (.cells #[.pointer none, .string (S 3).t, .int .i32 (S 3).l, .int .u32 0, .int .u16 0, .int .u8 (S 3).k, .int .u8 (S 3).ws, .string (S 3).u, .int .u8 (S 3).st, .int .u32 ((R 3 : Nat) : Int), .bool (S 3).b] 73) = W1 at *
        generalize wr.heap.size = cb at *
        go_cut [81] (fun s wx => s = .bool (!sf S 2) ∧ Hid (Below W1.heap.size W1 wx))
        case first =>
          have START := Lib.hid (show PJ W1 cb 7 g 8 (S 3).u (S 3).st (S 0).u (S 0).st W1.drew from ⟨(Below.refl _ _).drew, hcb, hg1, CB.out.cell 7, CB.out.cell 8, CX.out.cell 8, CX.out.cell 9⟩)
          have STEP := Lib.hid (fun w1 w2 (h : PJ W1 cb 7 g 8 (S 3).u (S 3).st (S 0).u (S 0).st w1) (hb : Below w1.heap.size w1 w2) => h.step hb)
          go_region_held3 (fun w' => Below W1.heap.size W1 w' ∧ cb < W1.heap.size ∧ g < W1.heap.size ∧ w'.cell? ⟨cb, 7, none⟩ = some (.string (S 3).u) ∧ w'.cell? ⟨cb, 8, none⟩ = some (.int .u8 (S 3).st) ∧ w'.cell? ⟨g, 8, none⟩ = some (.string (S 0).u) ∧ w'.cell? ⟨g, 9, none⟩ = some (.int .u8 (S 0).st))
            (first | assumption | exact START.out)
            (first | (go_at_call 22; refine (safe22 _ _ _ _ _).mono ?_; rintro e_ w9 ⟨rfl, hb9⟩; have hI := STEP.out _ _ (by assumption) hb9; clear hb9; unfold PJ at hI))
          all_goals
            go_wp2_with fail
            go_meet
            exact ⟨rfl, Lib.hid (And.left (show PJ W1 cb 7 g 8 (S 3).u (S 3).st (S 0).u (S 0).st w9 by assumption))⟩
        case rest =>
          obtain ⟨rfl, hbc⟩ := hcut
          rw [AL.out 2 (by omega)]
          have RB2 := Lib.hid (CR.out.trans (hbc.out.mono CR.out.size))
          clear hbc CR CX CB
          go_wp2_with fail
          go_roundw
          case rel => exact ⟨3, by omega, by go_num, RB2⟩
          case measure => simp [intOf]
    · obtain rfl : k = 3 := by omega
      clear hlt2 AL
      go_upto_region 9 with fail
      obtain ⟨W2, rfl⟩ : ∃ W2 : World, W2 = wr := ⟨_, rfl⟩
      go_cut [11] (fun s wx => ∃ tg W', s = .slice (some ⟨tg, 0, none⟩) (cm (fun i => (S i).k) (fun i => (S i).t)) 4 ∧ Hid (TR wx (some ⟨tg, 0, none⟩) (cm (fun i => (S i).k) (fun i => (S i).t)) (tc (fun i => (S i).k) (fun i => (S i).t) W' (fun i => (S i).l))) ∧ Hid (Below W2.heap.size W2 wx) ∧ Hid (∀ i, i < cm (fun i => (S i).k) (fun i => (S i).t) → W' i = wsv (cm (fun i => (S i).k) (fun i => (S i).t)) mw i) ∧ W2.heap.size ≤ tg)
      case first =>
        have START := Lib.hid (show QJ W2 g S W2.drew from ⟨(Below.refl _ _).drew, hg0, XB.out.cell 1, XB.out.cell 2, XB.out.cell 3, XB.out.cell 4, XB.out.cell 5, XB.out.cell 6, XB.out.cell 7, XB.out.cell 12, XB.out.cell 13, XB.out.cell 14, XB.out.cell 15, XB.out.cell 16, XB.out.cell 17, XB.out.cell 18, XB.out.cell 23, XB.out.cell 24, XB.out.cell 25, XB.out.cell 26, XB.out.cell 27, XB.out.cell 28, XB.out.cell 29, XB.out.cell 34, XB.out.cell 35, XB.out.cell 36, XB.out.cell 37, XB.out.cell 38, XB.out.cell 39, XB.out.cell 40⟩)
        have STEP := Lib.hid (fun w1 w2 (h : QJ W2 g S w1) (hb : Below w1.heap.size w1 w2) => h.step hb)
        go_region_held3 (fun w' => Below W2.heap.size W2 w' ∧ g < W2.heap.size ∧ w'.cell? ⟨g, 1, none⟩ = some (.pointer none) ∧ w'.cell? ⟨g, 2, none⟩ = some (.string (S 0).t) ∧ w'.cell? ⟨g, 3, none⟩ = some (.int .i32 (S 0).l) ∧ w'.cell? ⟨g, 4, none⟩ = some (.int .u32 0) ∧ w'.cell? ⟨g, 5, none⟩ = some (.int .u16 0) ∧ w'.cell? ⟨g, 6, none⟩ = some (.int .u8 (S 0).k) ∧ w'.cell? ⟨g, 7, none⟩ = some (.int .u8 (S 0).ws) ∧ w'.cell? ⟨g, 12, none⟩ = some (.pointer none) ∧ w'.cell? ⟨g, 13, none⟩ = some (.string (S 1).t) ∧ w'.cell? ⟨g, 14, none⟩ = some (.int .i32 (S 1).l) ∧ w'.cell? ⟨g, 15, none⟩ = some (.int .u32 0) ∧ w'.cell? ⟨g, 16, none⟩ = some (.int .u16 0) ∧ w'.cell? ⟨g, 17, none⟩ = some (.int .u8 (S 1).k) ∧ w'.cell? ⟨g, 18, none⟩ = some (.int .u8 (S 1).ws) ∧ w'.cell? ⟨g, 23, none⟩ = some (.pointer none) ∧ w'.cell? ⟨g, 24, none⟩ = some (.string (S 2).t) ∧ w'.cell? ⟨g, 25, none⟩ = some (.int .i32 (S 2).l) ∧ w'.cell? ⟨g, 26, none⟩ = some (.int .u32 0) ∧ w'.cell? ⟨g, 27, none⟩ = some (.int .u16 0) ∧ w'.cell? ⟨g, 28, none⟩ = some (.int .u8 (S 2).k) ∧ w'.cell? ⟨g, 29, none⟩ = some (.int .u8 (S 2).ws) ∧ w'.cell? ⟨g, 34, none⟩ = some (.pointer none) ∧ w'.cell? ⟨g, 35, none⟩ = some (.string (S 3).t) ∧ w'.cell? ⟨g, 36, none⟩ = some (.int .i32 (S 3).l) ∧ w'.cell? ⟨g, 37, none⟩ = some (.int .u32 0) ∧ w'.cell? ⟨g, 38, none⟩ = some (.int .u16 0) ∧ w'.cell? ⟨g, 39, none⟩ = some (.int .u8 (S 3).k) ∧ w'.cell? ⟨g, 40, none⟩ = some (.int .u8 (S 3).ws))
          (first | assumption | exact START.out)
          (first | (go_at_call 23; refine (compact_any (fun i => (S i).k) (fun i => (S i).t) (fun i => (S i).ws) (fun i => (S i).l) mw _).mono ?_; rintro e_ w9 ⟨tg, W', rfl, htr, hb9, hws, hge⟩; have HGE := QJ.le (wr := W2) (g := g) (S := S) (by assumption) hge; have hI := STEP.out _ _ (by assumption) hb9; have HTR := Lib.hid htr; have HWS := Lib.hid hws; clear hb9 htr hws hge; unfold QJ at hI))
        all_goals
          go_wp2_with fail
          go_meet
          exact ⟨tg, W', rfl, HTR, Lib.hid (And.left (show QJ W2 g S w9 by assumption)), HWS, HGE⟩
      case rest =>
        obtain ⟨tg, W', rfl, HTR, hbc, HWS, HGE⟩ := hcut
        have htg : ¬ tg = rg := by
          have e1 := RB.out.size
          have e2 := BT.out.lt
          omega
        have WB := Lib.hid (RB.out.trans (hbc.out.mono RB.out.size))
        have XB2 := Lib.hid (BB.out.below WB.out BB.out.lt)
        have XT2 := Lib.hid (BT.out.below WB.out BT.out.lt)
        have XR2 := Lib.hid (BR.out.below WB.out BR.out.lt)
        clear hbc RB XB BB BT BR ne ne2 hg0
        have hg0 : g < wc.heap.size := XB2.out.lt
        have hr0 : rg < wc.heap.size := XT2.out.lt
        have ne : ¬ g = wc.heap.size := by omega
        have ne2 : ¬ wc.heap.size = g := by omega
        obtain ⟨C, hC⟩ : ∃ C : List Value, C = C44 S R := ⟨_, rfl⟩
        have hRg := fun (ob : Obj) => (show (wc.alloc ob).rangeAt g 1 C by rw [hC]; exact (Box.alloc XB2.out ob).sides HR.out)
        have hi74 : (Try.prog.info? 74).map (·.size) = some C.length := by rw [hC]; kernel_rfl
        have hix0 : ∀ W : World, (Instr.index 74 (.agg C.toArray) (.int .i64 0)).run Try.prog W = .ok (.agg #[.pointer none, .string (S 0).t, .int .i32 (S 0).l, .int .u32 0, .int .u16 0, .int .u8 (S 0).k, .int .u8 (S 0).ws, .string (S 0).u, .int .u8 (S 0).st, .int .u32 ((R 0 : Nat) : Int), .bool (S 0).b]) W := fun W => by rw [hC]; exact ix0 S R W
        have hix1 : ∀ W : World, (Instr.index 74 (.agg C.toArray) (.int .i64 1)).run Try.prog W = .ok (.agg #[.pointer none, .string (S 1).t, .int .i32 (S 1).l, .int .u32 0, .int .u16 0, .int .u8 (S 1).k, .int .u8 (S 1).ws, .string (S 1).u, .int .u8 (S 1).st, .int .u32 ((R 1 : Nat) : Int), .bool (S 1).b]) W := fun W => by rw [hC]; exact ix1 S R W
        have hix2 : ∀ W : World, (Instr.index 74 (.agg C.toArray) (.int .i64 2)).run Try.prog W = .ok (.agg #[.pointer none, .string (S 2).t, .int .i32 (S 2).l, .int .u32 0, .int .u16 0, .int .u8 (S 2).k, .int .u8 (S 2).ws, .string (S 2).u, .int .u8 (S 2).st, .int .u32 ((R 2 : Nat) : Int), .bool (S 2).b]) W := fun W => by rw [hC]; exact ix2 S R W
        have hix3 : ∀ W : World, (Instr.index 74 (.agg C.toArray) (.int .i64 3)).run Try.prog W = .ok (.agg #[.pointer none, .string (S 3).t, .int .i32 (S 3).l, .int .u32 0, .int .u16 0, .int .u8 (S 3).k, .int .u8 (S 3).ws, .string (S 3).u, .int .u8 (S 3).st, .int .u32 ((R 3 : Nat) : Int), .bool (S 3).b]) W := fun W => by rw [hC]; exact ix3 S R W
        clear hC
        have KM := Lib.hid (fun (ob : Obj) => show Kept wc.heap.size rg wc (wc.alloc ob) from (Kept.refl _ _ _).alloc (Nat.le_refl _) ob)
        have KB := Lib.hid (show Blk (wc.alloc (.cells #[.int .i32 0] 33)) wc.heap.size 33 #[.int .i32 0] from Blk.new wc 33 _)
        have KT := Lib.hid (fun (ob : Obj) => show Tab (wc.alloc ob) rg 48 2 n (rc D Lc) from XT2.out.alloc ob)
        go_wp2_with (refine wpList_load_mid rfl 74 _ rfl g 1 rfl C _ (hRg _) Try.underlying74 rfl hi74 ?_)
        go_loopw [13, 14, 15, 113] (fun _ _ _ i wr => ∃ k : Nat, k ≤ 4 ∧ i = .int .i64 k ∧ Hid (Tab wr rg 48 2 n (rc (dk D R k) (lk Lc R k))) ∧ Hid (Blk wr wc.heap.size 33 #[.int .i32 (ml Lc R k)]) ∧ Hid (Kept wc.heap.size rg wc wr)) (fun _ _ _ i _ => 4 - (intOf i).toNat)
        case atStart => exact ⟨0, by omega, rfl, Lib.hid (KT.out _), Lib.hid (KB.out), Lib.hid (KM.out _)⟩
        case round =>
          obtain ⟨k, hk, rfl, TJ, MJ, KJ⟩ := hrel
          by_cases hlt4 : k < 4
          · rcases fourI hlt4 with rfl | rfl | rfl | rfl

            · as_aux_lemma =>
              have hRk : R 0 < n := HN.out 0 (by omega)
              have b0 : (0 : Int) ≤ (R 0 : Int) := by omega
              have b1 : (R 0 : Int) < (n : Int) := by omega
              have y1 : wr.cell? ⟨rg, R 0 * 2 + 1, none⟩ = some (.int .i32 (lk Lc R 0 (R 0))) := TJ.out.cell (i := R 0) (j := 1) hRk (by omega)
              have y0 : wr.cell? ⟨rg, R 0 * 2, none⟩ = some (dv (dk D R 0 (R 0))) := TJ.out.cell (i := R 0) (j := 0) hRk (by omega)
              have z1 : wr.frozen? ⟨rg, R 0 * 2 + 1, none⟩ = false := TJ.out.frozen _
              have z0 : wr.frozen? ⟨rg, R 0 * 2, none⟩ = false := TJ.out.frozen _
              have m0 : wr.cell? ⟨wc.heap.size, 0, none⟩ = some (.int .i32 (ml Lc R 0)) := MJ.out.cell 0
              have mz : wr.frozen? ⟨wc.heap.size, 0, none⟩ = false := MJ.out.frozen _
              have hx1 : rg < wr.heap.size := TJ.out.lt
              have hx2 : wc.heap.size < wr.heap.size := MJ.out.lt
              have n1 : ¬ rg = wr.heap.size := by omega
              have n2 : ¬ wr.heap.size = rg := by omega
              have n3 : ¬ wc.heap.size = wr.heap.size := by omega
              have n4 : ¬ wr.heap.size = wc.heap.size := by omega
              have n5 : ¬ rg = wc.heap.size := by omega
              have n6 : ¬ wc.heap.size = rg := by omega
              have n7 : ¬ rg = wr.heap.size + 1 := by omega
              have n8 : ¬ wr.heap.size + 1 = rg := by omega
              have n9 : ¬ wc.heap.size = wr.heap.size + 1 := by omega
              have n10 : ¬ wr.heap.size + 1 = wc.heap.size := by omega
              have STY := Lib.hid (fun (W : World) (h : Tab W rg 48 2 n (rc (dk D R 0) (lk Lc R 0))) => show Tab ((W.setCell ⟨rg, R 0 * 2, none⟩ .nilIface).setCell ⟨rg, R 0 * 2 + 1, none⟩ (.int .i32 0)) rg 48 2 n (rc (dk D R (0 + 1)) (lk Lc R (0 + 1))) from rc_step h hRk)
              go_wp2
              · clear y0 y1 z0 z1 m0 mz hix0 hix1 hix2 hix3
                have e9 := Lib.hid (ml_yes (Lc := Lc) (R := R) (k := 0) (.inl rfl))
                have T9 := Lib.hid (((STY.out _ (TJ.out.far (p := ⟨wc.heap.size, 0, none⟩) n5 (.int .i32 (lk Lc R 0 (R 0))))).alloc (.cells #[.pointer none, .string (S 0).t, .int .i32 (S 0).l, .int .u32 0, .int .u16 0, .int .u8 (S 0).k, .int .u8 (S 0).ws, .string (S 0).u, .int .u8 (S 0).st, .int .u32 ((R 0 : Nat) : Int), .bool (S 0).b] 73)).alloc (.cells #[.int .i32 (lk Lc R 0 (R 0))] 33))
                have M9 := Lib.hid (blk_as (((((MJ.out.set_ 0 (.int .i32 (lk Lc R 0 (R 0)))).far (p := ⟨rg, R 0 * 2, none⟩) n6 .nilIface).far (p := ⟨rg, R 0 * 2 + 1, none⟩) n6 (.int .i32 0)).alloc (.cells #[.pointer none, .string (S 0).t, .int .i32 (S 0).l, .int .u32 0, .int .u16 0, .int .u8 (S 0).k, .int .u8 (S 0).ws, .string (S 0).u, .int .u8 (S 0).st, .int .u32 ((R 0 : Nat) : Int), .bool (S 0).b] 73)).alloc (.cells #[.int .i32 (lk Lc R 0 (R 0))] 33)) (show _ = #[.int .i32 (ml Lc R (0 + 1))] by rw [e9.out]; rfl))
                have K9 := Lib.hid (kalloc (kalloc (((KJ.out.setNew (p := ⟨wc.heap.size, 0, none⟩) (Nat.le_refl _) (.int .i32 (lk Lc R 0 (R 0)))).setCell (R 0 * 2) .nilIface).setCell (R 0 * 2 + 1) (.int .i32 0)) (.cells #[.pointer none, .string (S 0).t, .int .i32 (S 0).l, .int .u32 0, .int .u16 0, .int .u8 (S 0).k, .int .u8 (S 0).ws, .string (S 0).u, .int .u8 (S 0).st, .int .u32 ((R 0 : Nat) : Int), .bool (S 0).b] 73)) (.cells #[.int .i32 (lk Lc R 0 (R 0))] 33))
                exact ⟨⟨0 + 1, by omega, rfl, T9, M9, K9⟩, by simp [intOf]⟩
            · as_aux_lemma =>
              have hRk : R 1 < n := HN.out 1 (by omega)
              have b0 : (0 : Int) ≤ (R 1 : Int) := by omega
              have b1 : (R 1 : Int) < (n : Int) := by omega
              have y1 : wr.cell? ⟨rg, R 1 * 2 + 1, none⟩ = some (.int .i32 (lk Lc R 1 (R 1))) := TJ.out.cell (i := R 1) (j := 1) hRk (by omega)
              have y0 : wr.cell? ⟨rg, R 1 * 2, none⟩ = some (dv (dk D R 1 (R 1))) := TJ.out.cell (i := R 1) (j := 0) hRk (by omega)
              have z1 : wr.frozen? ⟨rg, R 1 * 2 + 1, none⟩ = false := TJ.out.frozen _
              have z0 : wr.frozen? ⟨rg, R 1 * 2, none⟩ = false := TJ.out.frozen _
              have m0 : wr.cell? ⟨wc.heap.size, 0, none⟩ = some (.int .i32 (ml Lc R 1)) := MJ.out.cell 0
              have mz : wr.frozen? ⟨wc.heap.size, 0, none⟩ = false := MJ.out.frozen _
              have hx1 : rg < wr.heap.size := TJ.out.lt
              have hx2 : wc.heap.size < wr.heap.size := MJ.out.lt
              have n1 : ¬ rg = wr.heap.size := by omega
              have n2 : ¬ wr.heap.size = rg := by omega
              have n3 : ¬ wc.heap.size = wr.heap.size := by omega
              have n4 : ¬ wr.heap.size = wc.heap.size := by omega
              have n5 : ¬ rg = wc.heap.size := by omega
              have n6 : ¬ wc.heap.size = rg := by omega
              have n7 : ¬ rg = wr.heap.size + 1 := by omega
              have n8 : ¬ wr.heap.size + 1 = rg := by omega
              have n9 : ¬ wc.heap.size = wr.heap.size + 1 := by omega
              have n10 : ¬ wr.heap.size + 1 = wc.heap.size := by omega
              have STY := Lib.hid (fun (W : World) (h : Tab W rg 48 2 n (rc (dk D R 1) (lk Lc R 1))) => show Tab ((W.setCell ⟨rg, R 1 * 2, none⟩ .nilIface).setCell ⟨rg, R 1 * 2 + 1, none⟩ (.int .i32 0)) rg 48 2 n (rc (dk D R (1 + 1)) (lk Lc R (1 + 1))) from rc_step h hRk)
              go_wp2
              · rename_i hh
                clear y0 y1 z0 z1 m0 mz hix0 hix1 hix2 hix3
                have e9 := Lib.hid (ml_yes (Lc := Lc) (R := R) (k := 1) (.inr hh))
                have T9 := Lib.hid (((STY.out _ (TJ.out.far (p := ⟨wc.heap.size, 0, none⟩) n5 (.int .i32 (lk Lc R 1 (R 1))))).alloc (.cells #[.pointer none, .string (S 1).t, .int .i32 (S 1).l, .int .u32 0, .int .u16 0, .int .u8 (S 1).k, .int .u8 (S 1).ws, .string (S 1).u, .int .u8 (S 1).st, .int .u32 ((R 1 : Nat) : Int), .bool (S 1).b] 73)).alloc (.cells #[.int .i32 (lk Lc R 1 (R 1))] 33))
                have M9 := Lib.hid (blk_as (((((MJ.out.set_ 0 (.int .i32 (lk Lc R 1 (R 1)))).far (p := ⟨rg, R 1 * 2, none⟩) n6 .nilIface).far (p := ⟨rg, R 1 * 2 + 1, none⟩) n6 (.int .i32 0)).alloc (.cells #[.pointer none, .string (S 1).t, .int .i32 (S 1).l, .int .u32 0, .int .u16 0, .int .u8 (S 1).k, .int .u8 (S 1).ws, .string (S 1).u, .int .u8 (S 1).st, .int .u32 ((R 1 : Nat) : Int), .bool (S 1).b] 73)).alloc (.cells #[.int .i32 (lk Lc R 1 (R 1))] 33)) (show _ = #[.int .i32 (ml Lc R (1 + 1))] by rw [e9.out]; rfl))
                have K9 := Lib.hid (kalloc (kalloc (((KJ.out.setNew (p := ⟨wc.heap.size, 0, none⟩) (Nat.le_refl _) (.int .i32 (lk Lc R 1 (R 1)))).setCell (R 1 * 2) .nilIface).setCell (R 1 * 2 + 1) (.int .i32 0)) (.cells #[.pointer none, .string (S 1).t, .int .i32 (S 1).l, .int .u32 0, .int .u16 0, .int .u8 (S 1).k, .int .u8 (S 1).ws, .string (S 1).u, .int .u8 (S 1).st, .int .u32 ((R 1 : Nat) : Int), .bool (S 1).b] 73)) (.cells #[.int .i32 (lk Lc R 1 (R 1))] 33))
                exact ⟨⟨1 + 1, by omega, rfl, T9, M9, K9⟩, by simp [intOf]⟩
              · rename_i hh
                clear y0 y1 z0 z1 m0 mz hix0 hix1 hix2 hix3
                have e9 := Lib.hid (ml_no (Lc := Lc) (R := R) (k := 1) (by omega))
                have T9 := Lib.hid (((STY.out _ TJ.out).alloc (.cells #[.pointer none, .string (S 1).t, .int .i32 (S 1).l, .int .u32 0, .int .u16 0, .int .u8 (S 1).k, .int .u8 (S 1).ws, .string (S 1).u, .int .u8 (S 1).st, .int .u32 ((R 1 : Nat) : Int), .bool (S 1).b] 73)).alloc (.cells #[.int .i32 (lk Lc R 1 (R 1))] 33))
                have M9 := Lib.hid (blk_as ((((MJ.out.far (p := ⟨rg, R 1 * 2, none⟩) n6 .nilIface).far (p := ⟨rg, R 1 * 2 + 1, none⟩) n6 (.int .i32 0)).alloc (.cells #[.pointer none, .string (S 1).t, .int .i32 (S 1).l, .int .u32 0, .int .u16 0, .int .u8 (S 1).k, .int .u8 (S 1).ws, .string (S 1).u, .int .u8 (S 1).st, .int .u32 ((R 1 : Nat) : Int), .bool (S 1).b] 73)).alloc (.cells #[.int .i32 (lk Lc R 1 (R 1))] 33)) (show _ = #[.int .i32 (ml Lc R (1 + 1))] by rw [e9.out]))
                have K9 := Lib.hid (kalloc (kalloc ((KJ.out.setCell (R 1 * 2) .nilIface).setCell (R 1 * 2 + 1) (.int .i32 0)) (.cells #[.pointer none, .string (S 1).t, .int .i32 (S 1).l, .int .u32 0, .int .u16 0, .int .u8 (S 1).k, .int .u8 (S 1).ws, .string (S 1).u, .int .u8 (S 1).st, .int .u32 ((R 1 : Nat) : Int), .bool (S 1).b] 73)) (.cells #[.int .i32 (lk Lc R 1 (R 1))] 33))
                exact ⟨⟨1 + 1, by omega, rfl, T9, M9, K9⟩, by simp [intOf]⟩
            · as_aux_lemma =>
              have hRk : R 2 < n := HN.out 2 (by omega)
              have b0 : (0 : Int) ≤ (R 2 : Int) := by omega
              have b1 : (R 2 : Int) < (n : Int) := by omega
              have y1 : wr.cell? ⟨rg, R 2 * 2 + 1, none⟩ = some (.int .i32 (lk Lc R 2 (R 2))) := TJ.out.cell (i := R 2) (j := 1) hRk (by omega)
              have y0 : wr.cell? ⟨rg, R 2 * 2, none⟩ = some (dv (dk D R 2 (R 2))) := TJ.out.cell (i := R 2) (j := 0) hRk (by omega)
              have z1 : wr.frozen? ⟨rg, R 2 * 2 + 1, none⟩ = false := TJ.out.frozen _
              have z0 : wr.frozen? ⟨rg, R 2 * 2, none⟩ = false := TJ.out.frozen _
              have m0 : wr.cell? ⟨wc.heap.size, 0, none⟩ = some (.int .i32 (ml Lc R 2)) := MJ.out.cell 0
              have mz : wr.frozen? ⟨wc.heap.size, 0, none⟩ = false := MJ.out.frozen _
              have hx1 : rg < wr.heap.size := TJ.out.lt
              have hx2 : wc.heap.size < wr.heap.size := MJ.out.lt
              have n1 : ¬ rg = wr.heap.size := by omega
              have n2 : ¬ wr.heap.size = rg := by omega
              have n3 : ¬ wc.heap.size = wr.heap.size := by omega
              have n4 : ¬ wr.heap.size = wc.heap.size := by omega
              have n5 : ¬ rg = wc.heap.size := by omega
              have n6 : ¬ wc.heap.size = rg := by omega
              have n7 : ¬ rg = wr.heap.size + 1 := by omega
              have n8 : ¬ wr.heap.size + 1 = rg := by omega
              have n9 : ¬ wc.heap.size = wr.heap.size + 1 := by omega
              have n10 : ¬ wr.heap.size + 1 = wc.heap.size := by omega
              have STY := Lib.hid (fun (W : World) (h : Tab W rg 48 2 n (rc (dk D R 2) (lk Lc R 2))) => show Tab ((W.setCell ⟨rg, R 2 * 2, none⟩ .nilIface).setCell ⟨rg, R 2 * 2 + 1, none⟩ (.int .i32 0)) rg 48 2 n (rc (dk D R (2 + 1)) (lk Lc R (2 + 1))) from rc_step h hRk)
              go_wp2
              · rename_i hh
                clear y0 y1 z0 z1 m0 mz hix0 hix1 hix2 hix3
                have e9 := Lib.hid (ml_yes (Lc := Lc) (R := R) (k := 2) (.inr hh))
                have T9 := Lib.hid (((STY.out _ (TJ.out.far (p := ⟨wc.heap.size, 0, none⟩) n5 (.int .i32 (lk Lc R 2 (R 2))))).alloc (.cells #[.pointer none, .string (S 2).t, .int .i32 (S 2).l, .int .u32 0, .int .u16 0, .int .u8 (S 2).k, .int .u8 (S 2).ws, .string (S 2).u, .int .u8 (S 2).st, .int .u32 ((R 2 : Nat) : Int), .bool (S 2).b] 73)).alloc (.cells #[.int .i32 (lk Lc R 2 (R 2))] 33))
                have M9 := Lib.hid (blk_as (((((MJ.out.set_ 0 (.int .i32 (lk Lc R 2 (R 2)))).far (p := ⟨rg, R 2 * 2, none⟩) n6 .nilIface).far (p := ⟨rg, R 2 * 2 + 1, none⟩) n6 (.int .i32 0)).alloc (.cells #[.pointer none, .string (S 2).t, .int .i32 (S 2).l, .int .u32 0, .int .u16 0, .int .u8 (S 2).k, .int .u8 (S 2).ws, .string (S 2).u, .int .u8 (S 2).st, .int .u32 ((R 2 : Nat) : Int), .bool (S 2).b] 73)).alloc (.cells #[.int .i32 (lk Lc R 2 (R 2))] 33)) (show _ = #[.int .i32 (ml Lc R (2 + 1))] by rw [e9.out]; rfl))
                have K9 := Lib.hid (kalloc (kalloc (((KJ.out.setNew (p := ⟨wc.heap.size, 0, none⟩) (Nat.le_refl _) (.int .i32 (lk Lc R 2 (R 2)))).setCell (R 2 * 2) .nilIface).setCell (R 2 * 2 + 1) (.int .i32 0)) (.cells #[.pointer none, .string (S 2).t, .int .i32 (S 2).l, .int .u32 0, .int .u16 0, .int .u8 (S 2).k, .int .u8 (S 2).ws, .string (S 2).u, .int .u8 (S 2).st, .int .u32 ((R 2 : Nat) : Int), .bool (S 2).b] 73)) (.cells #[.int .i32 (lk Lc R 2 (R 2))] 33))
                exact ⟨⟨2 + 1, by omega, rfl, T9, M9, K9⟩, by simp [intOf]⟩
              · rename_i hh
                clear y0 y1 z0 z1 m0 mz hix0 hix1 hix2 hix3
                have e9 := Lib.hid (ml_no (Lc := Lc) (R := R) (k := 2) (by omega))
                have T9 := Lib.hid (((STY.out _ TJ.out).alloc (.cells #[.pointer none, .string (S 2).t, .int .i32 (S 2).l, .int .u32 0, .int .u16 0, .int .u8 (S 2).k, .int .u8 (S 2).ws, .string (S 2).u, .int .u8 (S 2).st, .int .u32 ((R 2 : Nat) : Int), .bool (S 2).b] 73)).alloc (.cells #[.int .i32 (lk Lc R 2 (R 2))] 33))
                have M9 := Lib.hid (blk_as ((((MJ.out.far (p := ⟨rg, R 2 * 2, none⟩) n6 .nilIface).far (p := ⟨rg, R 2 * 2 + 1, none⟩) n6 (.int .i32 0)).alloc (.cells #[.pointer none, .string (S 2).t, .int .i32 (S 2).l, .int .u32 0, .int .u16 0, .int .u8 (S 2).k, .int .u8 (S 2).ws, .string (S 2).u, .int .u8 (S 2).st, .int .u32 ((R 2 : Nat) : Int), .bool (S 2).b] 73)).alloc (.cells #[.int .i32 (lk Lc R 2 (R 2))] 33)) (show _ = #[.int .i32 (ml Lc R (2 + 1))] by rw [e9.out]))
                have K9 := Lib.hid (kalloc (kalloc ((KJ.out.setCell (R 2 * 2) .nilIface).setCell (R 2 * 2 + 1) (.int .i32 0)) (.cells #[.pointer none, .string (S 2).t, .int .i32 (S 2).l, .int .u32 0, .int .u16 0, .int .u8 (S 2).k, .int .u8 (S 2).ws, .string (S 2).u, .int .u8 (S 2).st, .int .u32 ((R 2 : Nat) : Int), .bool (S 2).b] 73)) (.cells #[.int .i32 (lk Lc R 2 (R 2))] 33))
                exact ⟨⟨2 + 1, by omega, rfl, T9, M9, K9⟩, by simp [intOf]⟩
            · as_aux_lemma =>
              have hRk : R 3 < n := HN.out 3 (by omega)
              have b0 : (0 : Int) ≤ (R 3 : Int) := by omega
              have b1 : (R 3 : Int) < (n : Int) := by omega
              have y1 : wr.cell? ⟨rg, R 3 * 2 + 1, none⟩ = some (.int .i32 (lk Lc R 3 (R 3))) := TJ.out.cell (i := R 3) (j := 1) hRk (by omega)
              have y0 : wr.cell? ⟨rg, R 3 * 2, none⟩ = some (dv (dk D R 3 (R 3))) := TJ.out.cell (i := R 3) (j := 0) hRk (by omega)
              have z1 : wr.frozen? ⟨rg, R 3 * 2 + 1, none⟩ = false := TJ.out.frozen _
              have z0 : wr.frozen? ⟨rg, R 3 * 2, none⟩ = false := TJ.out.frozen _
              have m0 : wr.cell? ⟨wc.heap.size, 0, none⟩ = some (.int .i32 (ml Lc R 3)) := MJ.out.cell 0
              have mz : wr.frozen? ⟨wc.heap.size, 0, none⟩ = false := MJ.out.frozen _
              have hx1 : rg < wr.heap.size := TJ.out.lt
              have hx2 : wc.heap.size < wr.heap.size := MJ.out.lt
              have n1 : ¬ rg = wr.heap.size := by omega
              have n2 : ¬ wr.heap.size = rg := by omega
              have n3 : ¬ wc.heap.size = wr.heap.size := by omega
              have n4 : ¬ wr.heap.size = wc.heap.size := by omega
              have n5 : ¬ rg = wc.heap.size := by omega
              have n6 : ¬ wc.heap.size = rg := by omega
              have n7 : ¬ rg = wr.heap.size + 1 := by omega
              have n8 : ¬ wr.heap.size + 1 = rg := by omega
              have n9 : ¬ wc.heap.size = wr.heap.size + 1 := by omega
              have n10 : ¬ wr.heap.size + 1 = wc.heap.size := by omega
              have STY := Lib.hid (fun (W : World) (h : Tab W rg 48 2 n (rc (dk D R 3) (lk Lc R 3))) => show Tab ((W.setCell ⟨rg, R 3 * 2, none⟩ .nilIface).setCell ⟨rg, R 3 * 2 + 1, none⟩ (.int .i32 0)) rg 48 2 n (rc (dk D R (3 + 1)) (lk Lc R (3 + 1))) from rc_step h hRk)
              go_wp2
              · rename_i hh
                clear y0 y1 z0 z1 m0 mz hix0 hix1 hix2 hix3
                have e9 := Lib.hid (ml_yes (Lc := Lc) (R := R) (k := 3) (.inr hh))
                have T9 := Lib.hid (((STY.out _ (TJ.out.far (p := ⟨wc.heap.size, 0, none⟩) n5 (.int .i32 (lk Lc R 3 (R 3))))).alloc (.cells #[.pointer none, .string (S 3).t, .int .i32 (S 3).l, .int .u32 0, .int .u16 0, .int .u8 (S 3).k, .int .u8 (S 3).ws, .string (S 3).u, .int .u8 (S 3).st, .int .u32 ((R 3 : Nat) : Int), .bool (S 3).b] 73)).alloc (.cells #[.int .i32 (lk Lc R 3 (R 3))] 33))
                have M9 := Lib.hid (blk_as (((((MJ.out.set_ 0 (.int .i32 (lk Lc R 3 (R 3)))).far (p := ⟨rg, R 3 * 2, none⟩) n6 .nilIface).far (p := ⟨rg, R 3 * 2 + 1, none⟩) n6 (.int .i32 0)).alloc (.cells #[.pointer none, .string (S 3).t, .int .i32 (S 3).l, .int .u32 0, .int .u16 0, .int .u8 (S 3).k, .int .u8 (S 3).ws, .string (S 3).u, .int .u8 (S 3).st, .int .u32 ((R 3 : Nat) : Int), .bool (S 3).b] 73)).alloc (.cells #[.int .i32 (lk Lc R 3 (R 3))] 33)) (show _ = #[.int .i32 (ml Lc R (3 + 1))] by rw [e9.out]; rfl))
                have K9 := Lib.hid (kalloc (kalloc (((KJ.out.setNew (p := ⟨wc.heap.size, 0, none⟩) (Nat.le_refl _) (.int .i32 (lk Lc R 3 (R 3)))).setCell (R 3 * 2) .nilIface).setCell (R 3 * 2 + 1) (.int .i32 0)) (.cells #[.pointer none, .string (S 3).t, .int .i32 (S 3).l, .int .u32 0, .int .u16 0, .int .u8 (S 3).k, .int .u8 (S 3).ws, .string (S 3).u, .int .u8 (S 3).st, .int .u32 ((R 3 : Nat) : Int), .bool (S 3).b] 73)) (.cells #[.int .i32 (lk Lc R 3 (R 3))] 33))
                exact ⟨⟨3 + 1, by omega, rfl, T9, M9, K9⟩, by simp [intOf]⟩
              · rename_i hh
                clear y0 y1 z0 z1 m0 mz hix0 hix1 hix2 hix3
                have e9 := Lib.hid (ml_no (Lc := Lc) (R := R) (k := 3) (by omega))
                have T9 := Lib.hid (((STY.out _ TJ.out).alloc (.cells #[.pointer none, .string (S 3).t, .int .i32 (S 3).l, .int .u32 0, .int .u16 0, .int .u8 (S 3).k, .int .u8 (S 3).ws, .string (S 3).u, .int .u8 (S 3).st, .int .u32 ((R 3 : Nat) : Int), .bool (S 3).b] 73)).alloc (.cells #[.int .i32 (lk Lc R 3 (R 3))] 33))
                have M9 := Lib.hid (blk_as ((((MJ.out.far (p := ⟨rg, R 3 * 2, none⟩) n6 .nilIface).far (p := ⟨rg, R 3 * 2 + 1, none⟩) n6 (.int .i32 0)).alloc (.cells #[.pointer none, .string (S 3).t, .int .i32 (S 3).l, .int .u32 0, .int .u16 0, .int .u8 (S 3).k, .int .u8 (S 3).ws, .string (S 3).u, .int .u8 (S 3).st, .int .u32 ((R 3 : Nat) : Int), .bool (S 3).b] 73)).alloc (.cells #[.int .i32 (lk Lc R 3 (R 3))] 33)) (show _ = #[.int .i32 (ml Lc R (3 + 1))] by rw [e9.out]))
                have K9 := Lib.hid (kalloc (kalloc ((KJ.out.setCell (R 3 * 2) .nilIface).setCell (R 3 * 2 + 1) (.int .i32 0)) (.cells #[.pointer none, .string (S 3).t, .int .i32 (S 3).l, .int .u32 0, .int .u16 0, .int .u8 (S 3).k, .int .u8 (S 3).ws, .string (S 3).u, .int .u8 (S 3).st, .int .u32 ((R 3 : Nat) : Int), .bool (S 3).b] 73)) (.cells #[.int .i32 (lk Lc R 3 (R 3))] 33))
                exact ⟨⟨3 + 1, by omega, rfl, T9, M9, K9⟩, by simp [intOf]⟩
          · obtain rfl : k = 4 := by omega
            clear hix0 hix1 hix2 hix3 KM KB KT hRg hi74
            have XB3 := Lib.hid (KJ.out.blk XB2.out hg0 hg)
            have hw0 : w.heap.size < wc.heap.size := XR2.out.lt
            have XR3 := Lib.hid (KJ.out.blk XR2.out hw0 (by omega))
            have hR3 : R 3 < n := HN.out 3 (by omega)
            have b0 : (0 : Int) ≤ (R 3 : Int) := by omega
            have b1 : (R 3 : Int) < (n : Int) := by omega
            have c43 : wr.cell? ⟨g, 43, none⟩ = some (.int .u32 ((R 3 : Nat) : Int)) := by rw [← HR.out 3 (by omega)]; exact XB3.out.cell 43
            have c0 : wr.cell? ⟨g, 0, none⟩ = some (.string kt) := XB3.out.cell 0
            have c46 : wr.cell? ⟨g, 46, none⟩ = some (.bool im) := XB3.out.cell 46
            have c47 : wr.cell? ⟨g, 47, none⟩ = some (.int .u16 key) := XB3.out.cell 47
            have r0 : wr.cell? ⟨w.heap.size, 0, none⟩ = some (.int .i32 ks) := XR3.out.cell 0
            have r1 : wr.cell? ⟨w.heap.size, 1, none⟩ = some (.int .i32 kl) := XR3.out.cell 1
            have m0 : wr.cell? ⟨wc.heap.size, 0, none⟩ = some (.int .i32 (ml Lc R 4)) := MJ.out.cell 0
            have y1 : wr.cell? ⟨rg, R 3 * 2 + 1, none⟩ = some (.int .i32 (lk Lc R 4 (R 3))) := TJ.out.cell (i := R 3) (j := 1) hR3 (by omega)
            have y0 : wr.cell? ⟨rg, R 3 * 2, none⟩ = some (dv (dk D R 4 (R 3))) := TJ.out.cell (i := R 3) (j := 0) hR3 (by omega)
            have z1 : wr.frozen? ⟨rg, R 3 * 2 + 1, none⟩ = false := TJ.out.frozen _
            have z0 : wr.frozen? ⟨rg, R 3 * 2, none⟩ = false := TJ.out.frozen _
            have hx1 : rg < wr.heap.size := TJ.out.lt
            have hx2 : wc.heap.size < wr.heap.size := MJ.out.lt
            have n1 : ¬ rg = wr.heap.size := by omega
            have n2 : ¬ wr.heap.size = rg := by omega
            have n3 : ¬ wc.heap.size = wr.heap.size := by omega
            have n4 : ¬ wr.heap.size = wc.heap.size := by omega
            have n5 : ¬ g = wr.heap.size := by omega
            have n6 : ¬ wr.heap.size = g := by omega
            have n7 : ¬ w.heap.size = wr.heap.size := by omega
            have n8 : ¬ wr.heap.size = w.heap.size := by omega
            have START := Lib.hid (show FQ g rg w.heap.size wc.heap.size (R 3) kt im key ks kl (ml Lc R 4) wr.drew from ⟨c43, c0, c46, c47, r0, r1, m0, by rw [show wr.drew.cell? ⟨rg, R 3 * 2, none⟩ = _ from y0]; rfl, by rw [show wr.drew.cell? ⟨rg, R 3 * 2 + 1, none⟩ = _ from y1]; rfl, z0, z1⟩)
            have AL := Lib.hid (fun (ob : Obj) => show FQ g rg w.heap.size wc.heap.size (R 3) kt im key ks kl (ml Lc R 4) (wr.alloc ob).drew from START.out.step ((Below.refl _ _).alloc (Nat.le_refl _) ob))
            have PU := Lib.hid (fun (ob : Obj) (v1 v2 : Value) => show FQ g rg w.heap.size wc.heap.size (R 3) kt im key ks kl (ml Lc R 4) (((wr.setCell ⟨rg, R 3 * 2, none⟩ v1).setCell ⟨rg, R 3 * 2 + 1, none⟩ v2).alloc ob).drew from FQ.step (w2 := (((wr.setCell ⟨rg, R 3 * 2, none⟩ v1).setCell ⟨rg, R 3 * 2 + 1, none⟩ v2).alloc ob).drew) (START.out.put hg (by omega) (by omega) v1 v2) ((Below.refl _ _).alloc (Nat.le_refl _) ob))
            go_wp2_with fail
            go_region_held3 (fun w' => w'.cell? ⟨g, 43, none⟩ = some (.int .u32 ((R 3 : Nat) : Int)) ∧ w'.cell? ⟨g, 0, none⟩ = some (.string kt) ∧ w'.cell? ⟨g, 46, none⟩ = some (.bool im) ∧ w'.cell? ⟨g, 47, none⟩ = some (.int .u16 key) ∧ w'.cell? ⟨w.heap.size, 0, none⟩ = some (.int .i32 ks) ∧ w'.cell? ⟨w.heap.size, 1, none⟩ = some (.int .i32 kl) ∧ w'.cell? ⟨wc.heap.size, 0, none⟩ = some (.int .i32 (ml Lc R 4)) ∧ (w'.cell? ⟨rg, R 3 * 2, none⟩).isSome = true ∧ (w'.cell? ⟨rg, R 3 * 2 + 1, none⟩).isSome = true ∧ w'.frozen? ⟨rg, R 3 * 2, none⟩ = false ∧ w'.frozen? ⟨rg, R 3 * 2 + 1, none⟩ = false)
              (first | assumption | exact START.out | exact AL.out _ | exact PU.out _ _ _)
              (first | fail)
            have TF := Lib.hid (rc_last TJ.out hR3 wr.heap.size)
            go_wp2_with fail
            refine bodyPost_end (results_none rfl _ _ _) rfl ?_
            have KF := Lib.hid (kalloc ((KJ.out.setCell (R 3 * 2) (.iface 30 (.pointer (some ⟨wr.heap.size, 0, none⟩)))).setCell (R 3 * 2 + 1) (.int .i32 (ml Lc R 4))) (.cells #[.string kt, .slice (some ⟨tg, 0, none⟩) (cm (fun i => (S i).k) fun i => (S i).t) 4, .int .i32 ks, .int .i32 kl, .int .u16 key, .bool im] 44))
            have NB := Lib.hid (Blk.new ((wr.setCell ⟨rg, R 3 * 2, none⟩ (.iface 30 (.pointer (some ⟨wr.heap.size, 0, none⟩)))).setCell ⟨rg, R 3 * 2 + 1, none⟩ (.int .i32 (ml Lc R 4))) 44 #[.string kt, .slice (some ⟨tg, 0, none⟩) (cm (fun i => (S i).k) fun i => (S i).t) 4, .int .i32 ks, .int .i32 kl, .int .u16 key, .bool im])
            have W0s := WB.out.size
            have W1s := BK.out.size
            have W2s := KJ.out.size
            exact ⟨rfl, wr.heap.size, tg, W', (TF.out.alloc _).drew, Blk.drew (by simpa using NB.out), TR.keep HTR.out KF.out.drew htg, HWS.out, (BK.out.next BK.out.size WB.out).trans (KF.out.drew.mono (by omega)), by omega⟩
end Go.Proofs.Ytioilpdjfplffaa.ZT
