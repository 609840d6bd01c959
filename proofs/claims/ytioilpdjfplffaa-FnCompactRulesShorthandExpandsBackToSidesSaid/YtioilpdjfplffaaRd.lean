/- compactRules where it does nothing. Written by gen_boxd.py. -/
import Derived.Test.YtioilpdjfplffaaRb
import Derived.Test.YtioilpdjfplffaaGd
import Derived.Test.YtioilpdjfplffaaRp
namespace Go.Proofs.Ytioilpdjfplffaa.ZT
open Go.RowKit Go.Proofs.Ytioilpdjfplffaa.TB
set_option linter.unusedVariables false
set_option maxRecDepth 100000 in
set_option maxHeartbeats 8000000 in
theorem compact_no0 (g rg n c : Nat) (kt : ByteArray) (S : Nat → Sd) (au im : Bool) (key ks kl : Int) (mw : Bool) (w : World) (hb : Box w g kt S au im key) (q0 : (key == 0) = true) :
    Calls Try.prog 18 #[.pointer (some ⟨g, 0, none⟩), .slice (some ⟨rg, 0, none⟩) n c, .agg #[.int .i32 ks, .int .i32 kl], .bool mw] w
      fun e w' => e = .returned (.tuple #[]) ∧ Below w.heap.size w w' := by
  have HB := Lib.hid hb
  have hlt : g < w.heap.size := hb.lt
  clear hb
  have B0 := Lib.hid (fun (ob : Obj) => show Below w.heap.size w (w.alloc ob) from (Below.refl _ _).alloc (Nat.le_refl _) _)
  have ne : ¬ g = w.heap.size := by omega
  have ne2 : ¬ w.heap.size = g := by omega
  have c6 : w.cell? ⟨g, 6, none⟩ = some (.int .u8 (S 0).k) := HB.out.cell 6
  have c17 : w.cell? ⟨g, 17, none⟩ = some (.int .u8 (S 1).k) := HB.out.cell 17
  have c28 : w.cell? ⟨g, 28, none⟩ = some (.int .u8 (S 2).k) := HB.out.cell 28
  have c39 : w.cell? ⟨g, 39, none⟩ = some (.int .u8 (S 3).k) := HB.out.cell 39
  have c47 : w.cell? ⟨g, 47, none⟩ = some (.int .u16 key) := HB.out.cell 47
  go_enter Try.func18, Try.ntmps18
  go_wp2
  all_goals
    refine bodyPost_ret (results_none rfl _ _ _) rfl ?_
    first | exact ⟨rfl, B0.out _⟩ | exact ⟨rfl, (B0.out _).drew⟩
set_option maxRecDepth 100000 in
set_option maxHeartbeats 8000000 in
theorem compact_no1 (g rg n c : Nat) (kt : ByteArray) (S : Nat → Sd) (au im : Bool) (key ks kl : Int) (mw : Bool) (w : World) (hb : Box w g kt S au im key) (q0 : (key == 0) = false) (q1 : ((S 0).k == 0) = true) :
    Calls Try.prog 18 #[.pointer (some ⟨g, 0, none⟩), .slice (some ⟨rg, 0, none⟩) n c, .agg #[.int .i32 ks, .int .i32 kl], .bool mw] w
      fun e w' => e = .returned (.tuple #[]) ∧ Below w.heap.size w w' := by
  have HB := Lib.hid hb
  have hlt : g < w.heap.size := hb.lt
  clear hb
  have B0 := Lib.hid (fun (ob : Obj) => show Below w.heap.size w (w.alloc ob) from (Below.refl _ _).alloc (Nat.le_refl _) _)
  have ne : ¬ g = w.heap.size := by omega
  have ne2 : ¬ w.heap.size = g := by omega
  have c6 : w.cell? ⟨g, 6, none⟩ = some (.int .u8 (S 0).k) := HB.out.cell 6
  have c17 : w.cell? ⟨g, 17, none⟩ = some (.int .u8 (S 1).k) := HB.out.cell 17
  have c28 : w.cell? ⟨g, 28, none⟩ = some (.int .u8 (S 2).k) := HB.out.cell 28
  have c39 : w.cell? ⟨g, 39, none⟩ = some (.int .u8 (S 3).k) := HB.out.cell 39
  have c47 : w.cell? ⟨g, 47, none⟩ = some (.int .u16 key) := HB.out.cell 47
  go_enter Try.func18, Try.ntmps18
  go_wp2
  all_goals
    refine bodyPost_ret (results_none rfl _ _ _) rfl ?_
    first | exact ⟨rfl, B0.out _⟩ | exact ⟨rfl, (B0.out _).drew⟩
set_option maxRecDepth 100000 in
set_option maxHeartbeats 8000000 in
theorem compact_no2 (g rg n c : Nat) (kt : ByteArray) (S : Nat → Sd) (au im : Bool) (key ks kl : Int) (mw : Bool) (w : World) (hb : Box w g kt S au im key) (q0 : (key == 0) = false) (q1 : ((S 0).k == 0) = false) (q2 : ((S 1).k == 0) = true) :
    Calls Try.prog 18 #[.pointer (some ⟨g, 0, none⟩), .slice (some ⟨rg, 0, none⟩) n c, .agg #[.int .i32 ks, .int .i32 kl], .bool mw] w
      fun e w' => e = .returned (.tuple #[]) ∧ Below w.heap.size w w' := by
  have HB := Lib.hid hb
  have hlt : g < w.heap.size := hb.lt
  clear hb
  have B0 := Lib.hid (fun (ob : Obj) => show Below w.heap.size w (w.alloc ob) from (Below.refl _ _).alloc (Nat.le_refl _) _)
  have ne : ¬ g = w.heap.size := by omega
  have ne2 : ¬ w.heap.size = g := by omega
  have c6 : w.cell? ⟨g, 6, none⟩ = some (.int .u8 (S 0).k) := HB.out.cell 6
  have c17 : w.cell? ⟨g, 17, none⟩ = some (.int .u8 (S 1).k) := HB.out.cell 17
  have c28 : w.cell? ⟨g, 28, none⟩ = some (.int .u8 (S 2).k) := HB.out.cell 28
  have c39 : w.cell? ⟨g, 39, none⟩ = some (.int .u8 (S 3).k) := HB.out.cell 39
  have c47 : w.cell? ⟨g, 47, none⟩ = some (.int .u16 key) := HB.out.cell 47
  go_enter Try.func18, Try.ntmps18
  go_wp2
  all_goals
    refine bodyPost_ret (results_none rfl _ _ _) rfl ?_
    first | exact ⟨rfl, B0.out _⟩ | exact ⟨rfl, (B0.out _).drew⟩
set_option maxRecDepth 100000 in
set_option maxHeartbeats 8000000 in
theorem compact_no3 (g rg n c : Nat) (kt : ByteArray) (S : Nat → Sd) (au im : Bool) (key ks kl : Int) (mw : Bool) (w : World) (hb : Box w g kt S au im key) (q0 : (key == 0) = false) (q1 : ((S 0).k == 0) = false) (q2 : ((S 1).k == 0) = false) (q3 : ((S 2).k == 0) = true) :
    Calls Try.prog 18 #[.pointer (some ⟨g, 0, none⟩), .slice (some ⟨rg, 0, none⟩) n c, .agg #[.int .i32 ks, .int .i32 kl], .bool mw] w
      fun e w' => e = .returned (.tuple #[]) ∧ Below w.heap.size w w' := by
  have HB := Lib.hid hb
  have hlt : g < w.heap.size := hb.lt
  clear hb
  have B0 := Lib.hid (fun (ob : Obj) => show Below w.heap.size w (w.alloc ob) from (Below.refl _ _).alloc (Nat.le_refl _) _)
  have ne : ¬ g = w.heap.size := by omega
  have ne2 : ¬ w.heap.size = g := by omega
  have c6 : w.cell? ⟨g, 6, none⟩ = some (.int .u8 (S 0).k) := HB.out.cell 6
  have c17 : w.cell? ⟨g, 17, none⟩ = some (.int .u8 (S 1).k) := HB.out.cell 17
  have c28 : w.cell? ⟨g, 28, none⟩ = some (.int .u8 (S 2).k) := HB.out.cell 28
  have c39 : w.cell? ⟨g, 39, none⟩ = some (.int .u8 (S 3).k) := HB.out.cell 39
  have c47 : w.cell? ⟨g, 47, none⟩ = some (.int .u16 key) := HB.out.cell 47
  go_enter Try.func18, Try.ntmps18
  go_wp2
  all_goals
    refine bodyPost_ret (results_none rfl _ _ _) rfl ?_
    first | exact ⟨rfl, B0.out _⟩ | exact ⟨rfl, (B0.out _).drew⟩
set_option maxRecDepth 100000 in
set_option maxHeartbeats 8000000 in
theorem compact_no4 (g rg n c : Nat) (kt : ByteArray) (S : Nat → Sd) (au im : Bool) (key ks kl : Int) (mw : Bool) (w : World) (hb : Box w g kt S au im key) (q0 : (key == 0) = false) (q1 : ((S 0).k == 0) = false) (q2 : ((S 1).k == 0) = false) (q3 : ((S 2).k == 0) = false) (q4 : ((S 3).k == 0) = true) :
    Calls Try.prog 18 #[.pointer (some ⟨g, 0, none⟩), .slice (some ⟨rg, 0, none⟩) n c, .agg #[.int .i32 ks, .int .i32 kl], .bool mw] w
      fun e w' => e = .returned (.tuple #[]) ∧ Below w.heap.size w w' := by
  have HB := Lib.hid hb
  have hlt : g < w.heap.size := hb.lt
  clear hb
  have B0 := Lib.hid (fun (ob : Obj) => show Below w.heap.size w (w.alloc ob) from (Below.refl _ _).alloc (Nat.le_refl _) _)
  have ne : ¬ g = w.heap.size := by omega
  have ne2 : ¬ w.heap.size = g := by omega
  have c6 : w.cell? ⟨g, 6, none⟩ = some (.int .u8 (S 0).k) := HB.out.cell 6
  have c17 : w.cell? ⟨g, 17, none⟩ = some (.int .u8 (S 1).k) := HB.out.cell 17
  have c28 : w.cell? ⟨g, 28, none⟩ = some (.int .u8 (S 2).k) := HB.out.cell 28
  have c39 : w.cell? ⟨g, 39, none⟩ = some (.int .u8 (S 3).k) := HB.out.cell 39
  have c47 : w.cell? ⟨g, 47, none⟩ = some (.int .u16 key) := HB.out.cell 47
  go_enter Try.func18, Try.ntmps18
  go_wp2
  all_goals
    refine bodyPost_ret (results_none rfl _ _ _) rfl ?_
    first | exact ⟨rfl, B0.out _⟩ | exact ⟨rfl, (B0.out _).drew⟩
set_option maxRecDepth 100000 in
set_option maxHeartbeats 8000000 in
theorem compact_no5 (g rg n c : Nat) (kt : ByteArray) (S : Nat → Sd) (au im : Bool) (key ks kl : Int) (mw : Bool) (w : World) (hb : Box w g kt S au im key) (q0 : (key == 0) = false) (q1 : ((S 0).k == 0) = false) (q2 : ((S 1).k == 0) = false) (q3 : ((S 2).k == 0) = false) (q4 : ((S 3).k == 0) = false) (hf : ¬ ∀ k, k < 3 → sf S k = true) :
    Calls Try.prog 18 #[.pointer (some ⟨g, 0, none⟩), .slice (some ⟨rg, 0, none⟩) n c, .agg #[.int .i32 ks, .int .i32 kl], .bool mw] w
      fun e w' => e = .returned (.tuple #[]) ∧ Below w.heap.size w w' := by
  have HB := Lib.hid hb
  have hlt : g < w.heap.size := hb.lt
  clear hb
  have B0 := Lib.hid (fun (ob : Obj) => show Below w.heap.size w (w.alloc ob) from (Below.refl _ _).alloc (Nat.le_refl _) _)
  have ne : ¬ g = w.heap.size := by omega
  have ne2 : ¬ w.heap.size = g := by omega
  have BB0 := Lib.hid (fun (ob : Obj) => show Box (w.alloc ob) g kt S au im key from HB.out.alloc ob)
  have HF := Lib.hid hf
  clear hf
  have c6 : w.cell? ⟨g, 6, none⟩ = some (.int .u8 (S 0).k) := HB.out.cell 6
  have c17 : w.cell? ⟨g, 17, none⟩ = some (.int .u8 (S 1).k) := HB.out.cell 17
  have c28 : w.cell? ⟨g, 28, none⟩ = some (.int .u8 (S 2).k) := HB.out.cell 28
  have c39 : w.cell? ⟨g, 39, none⟩ = some (.int .u8 (S 3).k) := HB.out.cell 39
  have c47 : w.cell? ⟨g, 47, none⟩ = some (.int .u16 key) := HB.out.cell 47
  go_enter Try.func18, Try.ntmps18
  go_wp2
  clear c6 c17 c28 c39 c47
  have BB := Lib.hid (BB0.out (.cells #[.int .i32 ks, .int .i32 kl] 42))
  have BK := Lib.hid (B0.out (.cells #[.int .i32 ks, .int .i32 kl] 42))
  clear B0 BB0 ne ne2
  generalize w.alloc (.cells #[.int .i32 ks, .int .i32 kl] 42) = W0 at *
  go_loopw [68] (fun i wr => ∃ k : Nat, k ≤ 3 ∧ i = .int .i64 k ∧ Hid (Below W0.heap.size W0 wr) ∧ Hid (∀ j, j < k → sf S j = true)) (fun i _ => 3 - (intOf i).toNat)
  case atStart => exact ⟨0, by omega, rfl, Lib.hid (Below.refl _ _), Lib.hid (fun j hj => absurd hj (Nat.not_lt_zero j))⟩
  case round =>
    obtain ⟨k, hk, rfl, RB, AL⟩ := hrel
    have XB := Lib.hid (BB.out.below RB.out BB.out.lt)
    have hg0 : g < wr.heap.size := XB.out.lt
    have ne : ¬ g = wr.heap.size := by omega
    have ne2 : ¬ wr.heap.size = g := by omega
    by_cases hlt2 : k < 3
    · rcases three hlt2 with rfl | rfl | rfl
      · as_aux_lemma =>
        have c12 : wr.cell? ⟨g, 12, none⟩ = some (.pointer none) := XB.out.cell 12
        have c13 : wr.cell? ⟨g, 13, none⟩ = some (.string (S 1).t) := XB.out.cell 13
        have c14 : wr.cell? ⟨g, 14, none⟩ = some (.int .i32 (S 1).l) := XB.out.cell 14
        have c15 : wr.cell? ⟨g, 15, none⟩ = some (.int .u32 0) := XB.out.cell 15
        have c16 : wr.cell? ⟨g, 16, none⟩ = some (.int .u16 0) := XB.out.cell 16
        have c17 : wr.cell? ⟨g, 17, none⟩ = some (.int .u8 (S 1).k) := XB.out.cell 17
        have c18 : wr.cell? ⟨g, 18, none⟩ = some (.int .u8 (S 1).ws) := XB.out.cell 18
        have c19 : wr.cell? ⟨g, 19, none⟩ = some (.string (S 1).u) := XB.out.cell 19
        have c20 : wr.cell? ⟨g, 20, none⟩ = some (.int .u8 (S 1).st) := XB.out.cell 20
        have c21 : wr.cell? ⟨g, 21, none⟩ = some (.int .u32 (S 1).r) := XB.out.cell 21
        have c22 : wr.cell? ⟨g, 22, none⟩ = some (.bool (S 1).b) := XB.out.cell 22
        go_upto_region 7 with fail
        have CB := Lib.hid (show Blk (wr.alloc (.cells #[.pointer none, .string (S 1).t, .int .i32 (S 1).l, .int .u32 0, .int .u16 0, .int .u8 (S 1).k, .int .u8 (S 1).ws, .string (S 1).u, .int .u8 (S 1).st, .int .u32 (S 1).r, .bool (S 1).b] 73)) wr.heap.size 73 #[.pointer none, .string (S 1).t, .int .i32 (S 1).l, .int .u32 0, .int .u16 0, .int .u8 (S 1).k, .int .u8 (S 1).ws, .string (S 1).u, .int .u8 (S 1).st, .int .u32 (S 1).r, .bool (S 1).b] from Blk.new wr 73 _)
        have CX := Lib.hid (show Box (wr.alloc (.cells #[.pointer none, .string (S 1).t, .int .i32 (S 1).l, .int .u32 0, .int .u16 0, .int .u8 (S 1).k, .int .u8 (S 1).ws, .string (S 1).u, .int .u8 (S 1).st, .int .u32 (S 1).r, .bool (S 1).b] 73)) g kt S au im key from XB.out.alloc _)
        have CR := Lib.hid (show Below W0.heap.size W0 (wr.alloc (.cells #[.pointer none, .string (S 1).t, .int .i32 (S 1).l, .int .u32 0, .int .u16 0, .int .u8 (S 1).k, .int .u8 (S 1).ws, .string (S 1).u, .int .u8 (S 1).st, .int .u32 (S 1).r, .bool (S 1).b] 73)) from RB.out.alloc RB.out.size _)
        have hcb : wr.heap.size < (wr.alloc (.cells #[.pointer none, .string (S 1).t, .int .i32 (S 1).l, .int .u32 0, .int .u16 0, .int .u8 (S 1).k, .int .u8 (S 1).ws, .string (S 1).u, .int .u8 (S 1).st, .int .u32 (S 1).r, .bool (S 1).b] 73)).heap.size := by simp
        have hg1 : g < (wr.alloc (.cells #[.pointer none, .string (S 1).t, .int .i32 (S 1).l, .int .u32 0, .int .u16 0, .int .u8 (S 1).k, .int .u8 (S 1).ws, .string (S 1).u, .int .u8 (S 1).st, .int .u32 (S 1).r, .bool (S 1).b] 73)).heap.size := CX.out.lt
        clear c12 c13 c14 c15 c16 c17 c18 c19 c20 c21 c22 RB XB ne ne2 hg0
        generalize wr.alloc (.cells #[.pointer none, .string (S 1).t, .int .i32 (S 1).l, .int .u32 0, .int .u16 0, .int .u8 (S 1).k, .int .u8 (S 1).ws, .string (S 1).u, .int .u8 (S 1).st, .int .u32 (S 1).r, .bool (S 1).b] 73) = W1 at *
        generalize wr.heap.size = cb at *
        go_cut [81] (fun s wx => s = .bool (!sf S 0) ∧ Hid (Below W1.heap.size W1 wx))
        case first =>
          have START := Lib.hid (show PJ W1 cb 7 g 8 (S 1).u (S 1).st (S 0).u (S 0).st W1.drew from ⟨(Below.refl _ _).drew, hcb, hg1, CB.out.cell 7, CB.out.cell 8, CX.out.cell 8, CX.out.cell 9⟩)
          have STEP := Lib.hid (fun w1 w2 (h : PJ W1 cb 7 g 8 (S 1).u (S 1).st (S 0).u (S 0).st w1) (hb : Below w1.heap.size w1 w2) => h.step hb)
          go_region_held3 (fun w' => Below W1.heap.size W1 w' ∧ cb < W1.heap.size ∧ g < W1.heap.size ∧ w'.cell? ⟨cb, 7, none⟩ = some (.string (S 1).u) ∧ w'.cell? ⟨cb, 8, none⟩ = some (.int .u8 (S 1).st) ∧ w'.cell? ⟨g, 8, none⟩ = some (.string (S 0).u) ∧ w'.cell? ⟨g, 9, none⟩ = some (.int .u8 (S 0).st))
            (first | assumption | exact START.out)
            (first | (go_at_call 22; refine (safe22 _ _ _ _ _).mono ?_; rintro e_ w9 ⟨rfl, hb9⟩; have hI := STEP.out _ _ (by assumption) hb9; clear hb9; unfold PJ at hI))
          all_goals
            go_wp2_with fail
            go_meet
            exact ⟨rfl, Lib.hid (And.left (show PJ W1 cb 7 g 8 (S 1).u (S 1).st (S 0).u (S 0).st w9 by assumption))⟩
        case rest =>
          obtain ⟨rfl, hbc⟩ := hcut
          have RB2 := Lib.hid (CR.out.trans (hbc.out.mono CR.out.size))
          clear hbc CR CX CB
          cases hs : sf S 0 with
          | true =>
            have AL2 := Lib.hid (sf_step AL.out hs)
            clear hs
            go_wp2_with fail
            all_goals
              go_roundw
              case rel => exact ⟨1, by omega, by go_num, RB2, AL2⟩
              case measure => simp [intOf]
          | false =>
            clear hs
            go_wp2_with fail
            refine bodyPost_ret (results_none rfl _ _ _) rfl ?_
            exact ⟨rfl, BK.out.trans (RB2.out.mono BK.out.size)⟩
      · as_aux_lemma =>
        have c23 : wr.cell? ⟨g, 23, none⟩ = some (.pointer none) := XB.out.cell 23
        have c24 : wr.cell? ⟨g, 24, none⟩ = some (.string (S 2).t) := XB.out.cell 24
        have c25 : wr.cell? ⟨g, 25, none⟩ = some (.int .i32 (S 2).l) := XB.out.cell 25
        have c26 : wr.cell? ⟨g, 26, none⟩ = some (.int .u32 0) := XB.out.cell 26
        have c27 : wr.cell? ⟨g, 27, none⟩ = some (.int .u16 0) := XB.out.cell 27
        have c28 : wr.cell? ⟨g, 28, none⟩ = some (.int .u8 (S 2).k) := XB.out.cell 28
        have c29 : wr.cell? ⟨g, 29, none⟩ = some (.int .u8 (S 2).ws) := XB.out.cell 29
        have c30 : wr.cell? ⟨g, 30, none⟩ = some (.string (S 2).u) := XB.out.cell 30
        have c31 : wr.cell? ⟨g, 31, none⟩ = some (.int .u8 (S 2).st) := XB.out.cell 31
        have c32 : wr.cell? ⟨g, 32, none⟩ = some (.int .u32 (S 2).r) := XB.out.cell 32
        have c33 : wr.cell? ⟨g, 33, none⟩ = some (.bool (S 2).b) := XB.out.cell 33
        go_upto_region 7 with fail
        have CB := Lib.hid (show Blk (wr.alloc (.cells #[.pointer none, .string (S 2).t, .int .i32 (S 2).l, .int .u32 0, .int .u16 0, .int .u8 (S 2).k, .int .u8 (S 2).ws, .string (S 2).u, .int .u8 (S 2).st, .int .u32 (S 2).r, .bool (S 2).b] 73)) wr.heap.size 73 #[.pointer none, .string (S 2).t, .int .i32 (S 2).l, .int .u32 0, .int .u16 0, .int .u8 (S 2).k, .int .u8 (S 2).ws, .string (S 2).u, .int .u8 (S 2).st, .int .u32 (S 2).r, .bool (S 2).b] from Blk.new wr 73 _)
        have CX := Lib.hid (show Box (wr.alloc (.cells #[.pointer none, .string (S 2).t, .int .i32 (S 2).l, .int .u32 0, .int .u16 0, .int .u8 (S 2).k, .int .u8 (S 2).ws, .string (S 2).u, .int .u8 (S 2).st, .int .u32 (S 2).r, .bool (S 2).b] 73)) g kt S au im key from XB.out.alloc _)
        have CR := Lib.hid (show Below W0.heap.size W0 (wr.alloc (.cells #[.pointer none, .string (S 2).t, .int .i32 (S 2).l, .int .u32 0, .int .u16 0, .int .u8 (S 2).k, .int .u8 (S 2).ws, .string (S 2).u, .int .u8 (S 2).st, .int .u32 (S 2).r, .bool (S 2).b] 73)) from RB.out.alloc RB.out.size _)
        have hcb : wr.heap.size < (wr.alloc (.cells #[.pointer none, .string (S 2).t, .int .i32 (S 2).l, .int .u32 0, .int .u16 0, .int .u8 (S 2).k, .int .u8 (S 2).ws, .string (S 2).u, .int .u8 (S 2).st, .int .u32 (S 2).r, .bool (S 2).b] 73)).heap.size := by simp
        have hg1 : g < (wr.alloc (.cells #[.pointer none, .string (S 2).t, .int .i32 (S 2).l, .int .u32 0, .int .u16 0, .int .u8 (S 2).k, .int .u8 (S 2).ws, .string (S 2).u, .int .u8 (S 2).st, .int .u32 (S 2).r, .bool (S 2).b] 73)).heap.size := CX.out.lt
        clear c23 c24 c25 c26 c27 c28 c29 c30 c31 c32 c33 RB XB ne ne2 hg0
        generalize wr.alloc (.cells #[.pointer none, .string (S 2).t, .int .i32 (S 2).l, .int .u32 0, .int .u16 0, .int .u8 (S 2).k, .int .u8 (S 2).ws, .string (S 2).u, .int .u8 (S 2).st, .int .u32 (S 2).r, .bool (S 2).b] 73) = W1 at *
        generalize wr.heap.size = cb at *
        go_cut [81] (fun s wx => s = .bool (!sf S 1) ∧ Hid (Below W1.heap.size W1 wx))
        case first =>
          have START := Lib.hid (show PJ W1 cb 7 g 8 (S 2).u (S 2).st (S 0).u (S 0).st W1.drew from ⟨(Below.refl _ _).drew, hcb, hg1, CB.out.cell 7, CB.out.cell 8, CX.out.cell 8, CX.out.cell 9⟩)
          have STEP := Lib.hid (fun w1 w2 (h : PJ W1 cb 7 g 8 (S 2).u (S 2).st (S 0).u (S 0).st w1) (hb : Below w1.heap.size w1 w2) => h.step hb)
          go_region_held3 (fun w' => Below W1.heap.size W1 w' ∧ cb < W1.heap.size ∧ g < W1.heap.size ∧ w'.cell? ⟨cb, 7, none⟩ = some (.string (S 2).u) ∧ w'.cell? ⟨cb, 8, none⟩ = some (.int .u8 (S 2).st) ∧ w'.cell? ⟨g, 8, none⟩ = some (.string (S 0).u) ∧ w'.cell? ⟨g, 9, none⟩ = some (.int .u8 (S 0).st))
            (first | assumption | exact START.out)
            (first | (go_at_call 22; refine (safe22 _ _ _ _ _).mono ?_; rintro e_ w9 ⟨rfl, hb9⟩; have hI := STEP.out _ _ (by assumption) hb9; clear hb9; unfold PJ at hI))
          all_goals
            go_wp2_with fail
            go_meet
            exact ⟨rfl, Lib.hid (And.left (show PJ W1 cb 7 g 8 (S 2).u (S 2).st (S 0).u (S 0).st w9 by assumption))⟩
        case rest =>
          obtain ⟨rfl, hbc⟩ := hcut
          have RB2 := Lib.hid (CR.out.trans (hbc.out.mono CR.out.size))
          clear hbc CR CX CB
          cases hs : sf S 1 with
          | true =>
            have AL2 := Lib.hid (sf_step AL.out hs)
            clear hs
            go_wp2_with fail
            all_goals
              go_roundw
              case rel => exact ⟨2, by omega, by go_num, RB2, AL2⟩
              case measure => simp [intOf]
          | false =>
            clear hs
            go_wp2_with fail
            refine bodyPost_ret (results_none rfl _ _ _) rfl ?_
            exact ⟨rfl, BK.out.trans (RB2.out.mono BK.out.size)⟩
      · as_aux_lemma =>
        have c34 : wr.cell? ⟨g, 34, none⟩ = some (.pointer none) := XB.out.cell 34
        have c35 : wr.cell? ⟨g, 35, none⟩ = some (.string (S 3).t) := XB.out.cell 35
        have c36 : wr.cell? ⟨g, 36, none⟩ = some (.int .i32 (S 3).l) := XB.out.cell 36
        have c37 : wr.cell? ⟨g, 37, none⟩ = some (.int .u32 0) := XB.out.cell 37
        have c38 : wr.cell? ⟨g, 38, none⟩ = some (.int .u16 0) := XB.out.cell 38
        have c39 : wr.cell? ⟨g, 39, none⟩ = some (.int .u8 (S 3).k) := XB.out.cell 39
        have c40 : wr.cell? ⟨g, 40, none⟩ = some (.int .u8 (S 3).ws) := XB.out.cell 40
        have c41 : wr.cell? ⟨g, 41, none⟩ = some (.string (S 3).u) := XB.out.cell 41
        have c42 : wr.cell? ⟨g, 42, none⟩ = some (.int .u8 (S 3).st) := XB.out.cell 42
        have c43 : wr.cell? ⟨g, 43, none⟩ = some (.int .u32 (S 3).r) := XB.out.cell 43
        have c44 : wr.cell? ⟨g, 44, none⟩ = some (.bool (S 3).b) := XB.out.cell 44
        go_upto_region 7 with fail
        have CB := Lib.hid (show Blk (wr.alloc (.cells #[.pointer none, .string (S 3).t, .int .i32 (S 3).l, .int .u32 0, .int .u16 0, .int .u8 (S 3).k, .int .u8 (S 3).ws, .string (S 3).u, .int .u8 (S 3).st, .int .u32 (S 3).r, .bool (S 3).b] 73)) wr.heap.size 73 #[.pointer none, .string (S 3).t, .int .i32 (S 3).l, .int .u32 0, .int .u16 0, .int .u8 (S 3).k, .int .u8 (S 3).ws, .string (S 3).u, .int .u8 (S 3).st, .int .u32 (S 3).r, .bool (S 3).b] from Blk.new wr 73 _)
        have CX := Lib.hid (show Box (wr.alloc (.cells #[.pointer none, .string (S 3).t, .int .i32 (S 3).l, .int .u32 0, .int .u16 0, .int .u8 (S 3).k, .int .u8 (S 3).ws, .string (S 3).u, .int .u8 (S 3).st, .int .u32 (S 3).r, .bool (S 3).b] 73)) g kt S au im key from XB.out.alloc _)
        have CR := Lib.hid (show Below W0.heap.size W0 (wr.alloc (.cells #[.pointer none, .string (S 3).t, .int .i32 (S 3).l, .int .u32 0, .int .u16 0, .int .u8 (S 3).k, .int .u8 (S 3).ws, .string (S 3).u, .int .u8 (S 3).st, .int .u32 (S 3).r, .bool (S 3).b] 73)) from RB.out.alloc RB.out.size _)
        have hcb : wr.heap.size < (wr.alloc (.cells #[.pointer none, .string (S 3).t, .int .i32 (S 3).l, .int .u32 0, .int .u16 0, .int .u8 (S 3).k, .int .u8 (S 3).ws, .string (S 3).u, .int .u8 (S 3).st, .int .u32 (S 3).r, .bool (S 3).b] 73)).heap.size := by simp
        have hg1 : g < (wr.alloc (.cells #[.pointer none, .string (S 3).t, .int .i32 (S 3).l, .int .u32 0, .int .u16 0, .int .u8 (S 3).k, .int .u8 (S 3).ws, .string (S 3).u, .int .u8 (S 3).st, .int .u32 (S 3).r, .bool (S 3).b] 73)).heap.size := CX.out.lt
        clear c34 c35 c36 c37 c38 c39 c40 c41 c42 c43 c44 RB XB ne ne2 hg0
        generalize wr.alloc (.cells #[.pointer none, .string (S 3).t, .int .i32 (S 3).l, .int .u32 0, .int .u16 0, .int .u8 (S 3).k, .int .u8 (S 3).ws, .string (S 3).u, .int .u8 (S 3).st, .int .u32 (S 3).r, .bool (S 3).b] 73) = W1 at *
        generalize wr.heap.size = cb at *
        go_cut [81] (fun s wx => s = .bool (!sf S 2) ∧ Hid (Below W1.heap.size W1 wx))
        case first =>
          have START := Lib.hid (show PJ W1 cb 7 g 8 (S 3).u (S 3).st (S 0).u (S 0).st W1.drew from ⟨(Below.refl _ _).drew, hcb, hg1, CB.out.cell 7, CB.out.cell 8, CX.out.cell 8, CX.out.cell 9⟩)
          have STEP := Lib.hid (fun w1 w2 (h : PJ W1 cb 7 g 8 (S 3).u (S 3).st (S 0).u (S 0).st w1) (hb : Below w1.heap.size w1 w2) => h.step hb)
          go_region_held3 (fun w' => Below W1.heap.size W1 w' ∧ cb < W1.heap.size ∧ g < W1.heap.size ∧ w'.cell? ⟨cb, 7, none⟩ = some (.string (S 3).u) ∧ w'.cell? ⟨cb, 8, none⟩ = some (.int .u8 (S 3).st) ∧ w'.cell? ⟨g, 8, none⟩ = some (.string (S 0).u) ∧ w'.cell? ⟨g, 9, none⟩ = some (.int .u8 (S 0).st))
            (first | assumption | exact START.out)
            (first | (go_at_call 22; refine (safe22 _ _ _ _ _).mono ?_; rintro e_ w9 ⟨rfl, hb9⟩; have hI := STEP.out _ _ (by assumption) hb9; clear hb9; unfold PJ at hI))
          all_goals
            go_wp2_with fail
            go_meet
            exact ⟨rfl, Lib.hid (And.left (show PJ W1 cb 7 g 8 (S 3).u (S 3).st (S 0).u (S 0).st w9 by assumption))⟩
        case rest =>
          obtain ⟨rfl, hbc⟩ := hcut
          have RB2 := Lib.hid (CR.out.trans (hbc.out.mono CR.out.size))
          clear hbc CR CX CB
          cases hs : sf S 2 with
          | true =>
            have AL2 := Lib.hid (sf_step AL.out hs)
            clear hs
            go_wp2_with fail
            all_goals
              go_roundw
              case rel => exact ⟨3, by omega, by go_num, RB2, AL2⟩
              case measure => simp [intOf]
          | false =>
            clear hs
            go_wp2_with fail
            refine bodyPost_ret (results_none rfl _ _ _) rfl ?_
            exact ⟨rfl, BK.out.trans (RB2.out.mono BK.out.size)⟩
    · obtain rfl : k = 3 := by omega
      exact absurd AL.out HF.out
theorem compact_no (g rg n c : Nat) (kt : ByteArray) (S : Nat → Sd) (au im : Bool) (key ks kl : Int) (mw : Bool) (w : World) (hb : Box w g kt S au im key) (hf : fires key S = false) :
    Calls Try.prog 18 #[.pointer (some ⟨g, 0, none⟩), .slice (some ⟨rg, 0, none⟩) n c, .agg #[.int .i32 ks, .int .i32 kl], .bool mw] w
      fun e w' => e = .returned (.tuple #[]) ∧ Below w.heap.size w w' := by
  cases q0 : (key == 0)
  case true => exact compact_no0 g rg n c kt S au im key ks kl mw w hb q0
  case false =>
    cases q1 : ((S 0).k == 0)
    case true => exact compact_no1 g rg n c kt S au im key ks kl mw w hb q0 q1
    case false =>
      cases q2 : ((S 1).k == 0)
      case true => exact compact_no2 g rg n c kt S au im key ks kl mw w hb q0 q1 q2
      case false =>
        cases q3 : ((S 2).k == 0)
        case true => exact compact_no3 g rg n c kt S au im key ks kl mw w hb q0 q1 q2 q3
        case false =>
          cases q4 : ((S 3).k == 0)
          case true => exact compact_no4 g rg n c kt S au im key ks kl mw w hb q0 q1 q2 q3 q4
          case false =>
            refine compact_no5 g rg n c kt S au im key ks kl mw w hb q0 q1 q2 q3 q4 fun h => ?_
            have h0 := h 0 (by omega)
            have h1 := h 1 (by omega)
            have h2 := h 2 (by omega)
            simp only [sf] at h0 h1 h2
            rw [fires, q0, q1, q2, q3, q4, h0, h1, h2] at hf
            cases hf
end Go.Proofs.Ytioilpdjfplffaa.ZT
