/- FnNextIsCurrentAfterAdvance: the walk. Printed by gen_next.py. -/
import Derived.Test.YtcaiehnihgcegaaPc
namespace Go.Proofs.Ytcaiehnihgcegaa.PA
open Go.RowKit Go.Proofs.Ytcaiehnihgcegaa.TB
set_option linter.unusedVariables false
theorem bld55' (x : Int) (w : World) : (Instr.build 55 #[(0, .agg #[.int .i32 x])]).run Try.prog w = .ok (.agg #[.int .i32 x, .int .i32 0]) w := run_build w 55 _ _ (by kernel_rfl)
def tkK (z1 : Nat → Int) (n i : Nat) : Int := if i < n then z1 i else 0
def tkS (z2 : Nat → Int) (n i : Nat) (c : ByteArray) : Int := if i < n then z2 i else c.size
def tkL (z3 : Nat → Int) (n i : Nat) : Int := if i < n then z3 i else 0
theorem tkK_nxt (z : Nat → Int) (n ix : Nat) : tkK z n (nxt ix n) = tkK z n (ix + 1) := by
  unfold nxt
  by_cases h : ix < n
  · rw [if_pos h]
  · rw [if_neg h]; unfold tkK; rw [if_neg h, if_neg (by omega)]
theorem tkS_nxt (z : Nat → Int) (n ix : Nat) (c : ByteArray) : tkS z n (nxt ix n) c = tkS z n (ix + 1) c := by
  unfold nxt
  by_cases h : ix < n
  · rw [if_pos h]
  · rw [if_neg h]; unfold tkS; rw [if_neg h, if_neg (by omega)]
theorem tkL_nxt (z : Nat → Int) (n ix : Nat) : tkL z n (nxt ix n) = tkL z n (ix + 1) := by
  unfold nxt
  by_cases h : ix < n
  · rw [if_pos h]
  · rw [if_neg h]; unfold tkL; rw [if_neg h, if_neg (by omega)]
set_option maxRecDepth 100000 in
set_option maxHeartbeats 1000000 in
theorem at_any (gp g n ix i : Nat) (c : ByteArray) (z1 z2 z3 : Nat → Int) (w : World) (hP : Par w gp g n c ix (tokF z1 z2 z3)) (hn : n ≤ 1048576) (hc : c.size ≤ 1048576) (hi : i ≤ 1048577) :
    Calls Try.prog 43 #[.pointer (some ⟨gp, 0, none⟩), .int .i64 i] w fun e w' => e = .returned (.agg #[.int .i32 (tkS z2 n i c), .int .i32 (tkL z3 n i), .int .u16 0, .int .u8 (tkK z1 n i), .int .u8 0]) ∧ Below w.heap.size w w' := by
  have c1 := hP.1.1
  have c3 := hP.1.2.2.1
  have T := Lib.hid hP.2.1
  have hg : g < w.heap.size := hP.2.1.lt
  have hgp : gp < w.heap.size := hP.2.2.2
  clear hP
  have ne1 : ¬ gp = w.heap.size := by omega
  have ne2 : ¬ g = w.heap.size := by omega
  have ne3 : ¬ w.heap.size = gp := by omega
  have ne4 : ¬ w.heap.size = g := by omega
  have B53 := @bld53
  have B55 := @bld55'
  have B59 := @bld59
  by_cases h : i < n
  · have e1 : tkS z2 n i c = z2 i := if_pos h
    have e2 : tkL z3 n i = z3 i := if_pos h
    have e3 : tkK z1 n i = z1 i := if_pos h
    rw [e1, e2, e3]
    clear e1 e2 e3
    have y0 : w.cell? ⟨g, i * 5, none⟩ = some (.int .i32 (z2 i)) := T.out.cell h (j := 0) (by omega)
    have y1 : w.cell? ⟨g, i * 5 + 1, none⟩ = some (.int .i32 (z3 i)) := T.out.cell h (j := 1) (by omega)
    have y2 : w.cell? ⟨g, i * 5 + 2, none⟩ = some (.int .u16 0) := T.out.cell h (j := 2) (by omega)
    have y3 : w.cell? ⟨g, i * 5 + 3, none⟩ = some (.int .u8 (z1 i)) := T.out.cell h (j := 3) (by omega)
    have y4 : w.cell? ⟨g, i * 5 + 4, none⟩ = some (.int .u8 0) := T.out.cell h (j := 4) (by omega)
    go_enter Try.func43, Try.ntmps43
    go_wp2
    refine bodyPost_ret (v := .agg #[.int .i32 (z2 i), .int .i32 (z3 i), .int .u16 0, .int .u8 (z1 i), .int .u8 0]) (by simp [results, Try.results43, go_sem]) rfl ⟨rfl, ?_⟩
    exact (Below.refl _ _).alloc (Nat.le_refl _) _
  · have e1 : tkS z2 n i c = c.size := if_neg h
    have e2 : tkL z3 n i = 0 := if_neg h
    have e3 : tkK z1 n i = 0 := if_neg h
    rw [e1, e2, e3]
    clear e1 e2 e3
    go_enter Try.func43, Try.ntmps43
    go_wp2
    refine bodyPost_ret (v := .agg #[.int .i32 c.size, .int .i32 0, .int .u16 0, .int .u8 0, .int .u8 0]) (by simp [results, Try.results43, go_sem]) rfl ⟨rfl, ?_⟩
    exact (Below.refl _ _).alloc (Nat.le_refl _) _


set_option maxRecDepth 100000 in
theorem next_any (gp g n ix : Nat) (c : ByteArray) (z1 z2 z3 : Nat → Int) (w : World) (hP : Par w gp g n c ix (tokF z1 z2 z3)) (hn : n ≤ 1048576) (hc : c.size ≤ 1048576) (hi : ix ≤ n) :
    Calls Try.prog 31 #[.pointer (some ⟨gp, 0, none⟩)] w fun e w' => e = .returned (.agg #[.int .i32 (tkS z2 n (ix + 1) c), .int .i32 (tkL z3 n (ix + 1)), .int .u16 0, .int .u8 (tkK z1 n (ix + 1)), .int .u8 0]) ∧ Below w.heap.size w w' := by
  have c2 := hP.1.2.1
  have hgp : gp < w.heap.size := hP.2.2.2
  have HP := Lib.hid (fun (o : Obj) => show Par (w.alloc o) gp g n c ix (tokF z1 z2 z3) from hP.below ((Below.refl _ _).alloc (Nat.le_refl _) o) hgp)
  clear hP
  go_enter Try.func31, Try.ntmps31
  go_wp2_with fail
  refine (at_any gp g n ix ((ix + 1)) c z1 z2 z3 _ (HP.out _) hn hc (by omega)).mono ?_
  rintro e w1 ⟨rfl, hb⟩
  have hz : w.heap.size < w1.heap.size := by have := hb.size; simp at this; omega
  have k0 := hb.cell (p := ⟨w.heap.size, 0, none⟩) (by simp)
  have k1 := hb.cell (p := ⟨w.heap.size, 1, none⟩) (by simp)
  have k2 := hb.cell (p := ⟨w.heap.size, 2, none⟩) (by simp)
  have k3 := hb.cell (p := ⟨w.heap.size, 3, none⟩) (by simp)
  have k4 := hb.cell (p := ⟨w.heap.size, 4, none⟩) (by simp)
  have f0 := hb.frozen (p := ⟨w.heap.size, 0, none⟩) (by simp)
  have f1 := hb.frozen (p := ⟨w.heap.size, 1, none⟩) (by simp)
  have f2 := hb.frozen (p := ⟨w.heap.size, 2, none⟩) (by simp)
  have f3 := hb.frozen (p := ⟨w.heap.size, 3, none⟩) (by simp)
  have f4 := hb.frozen (p := ⟨w.heap.size, 4, none⟩) (by simp)
  simp [go_sem] at k0 k1 k2 k3 k4 f0 f1 f2 f3 f4
  go_wp2
  refine bodyPost_ret (v := .agg #[.int .i32 (tkS z2 n ((ix + 1)) c), .int .i32 (tkL z3 n ((ix + 1))), .int .u16 0, .int .u8 (tkK z1 n ((ix + 1))), .int .u8 0]) (by simp [results, Try.results31, go_sem, k0, k1, k2, k3, k4]) rfl ⟨rfl, ?_⟩
  exact (((((((Below.refl _ _).alloc (Nat.le_refl _) _).trans (hb.mono (by simp))).setCell (Nat.le_refl _) _).setCell (Nat.le_refl _) _).setCell (Nat.le_refl _) _).setCell (Nat.le_refl _) _).setCell (Nat.le_refl _) _

set_option maxRecDepth 100000 in
theorem cur_any (gp g n ix : Nat) (c : ByteArray) (z1 z2 z3 : Nat → Int) (w : World) (hP : Par w gp g n c ix (tokF z1 z2 z3)) (hn : n ≤ 1048576) (hc : c.size ≤ 1048576) (hi : ix ≤ n) :
    Calls Try.prog 32 #[.pointer (some ⟨gp, 0, none⟩)] w fun e w' => e = .returned (.agg #[.int .i32 (tkS z2 n ix c), .int .i32 (tkL z3 n ix), .int .u16 0, .int .u8 (tkK z1 n ix), .int .u8 0]) ∧ Below w.heap.size w w' := by
  have c2 := hP.1.2.1
  have hgp : gp < w.heap.size := hP.2.2.2
  have HP := Lib.hid (fun (o : Obj) => show Par (w.alloc o) gp g n c ix (tokF z1 z2 z3) from hP.below ((Below.refl _ _).alloc (Nat.le_refl _) o) hgp)
  clear hP
  go_enter Try.func32, Try.ntmps32
  go_wp2_with fail
  refine (at_any gp g n ix (ix) c z1 z2 z3 _ (HP.out _) hn hc (by omega)).mono ?_
  rintro e w1 ⟨rfl, hb⟩
  have hz : w.heap.size < w1.heap.size := by have := hb.size; simp at this; omega
  have k0 := hb.cell (p := ⟨w.heap.size, 0, none⟩) (by simp)
  have k1 := hb.cell (p := ⟨w.heap.size, 1, none⟩) (by simp)
  have k2 := hb.cell (p := ⟨w.heap.size, 2, none⟩) (by simp)
  have k3 := hb.cell (p := ⟨w.heap.size, 3, none⟩) (by simp)
  have k4 := hb.cell (p := ⟨w.heap.size, 4, none⟩) (by simp)
  have f0 := hb.frozen (p := ⟨w.heap.size, 0, none⟩) (by simp)
  have f1 := hb.frozen (p := ⟨w.heap.size, 1, none⟩) (by simp)
  have f2 := hb.frozen (p := ⟨w.heap.size, 2, none⟩) (by simp)
  have f3 := hb.frozen (p := ⟨w.heap.size, 3, none⟩) (by simp)
  have f4 := hb.frozen (p := ⟨w.heap.size, 4, none⟩) (by simp)
  simp [go_sem] at k0 k1 k2 k3 k4 f0 f1 f2 f3 f4
  go_wp2
  refine bodyPost_ret (v := .agg #[.int .i32 (tkS z2 n (ix) c), .int .i32 (tkL z3 n (ix)), .int .u16 0, .int .u8 (tkK z1 n (ix)), .int .u8 0]) (by simp [results, Try.results32, go_sem, k0, k1, k2, k3, k4]) rfl ⟨rfl, ?_⟩
  exact (((((((Below.refl _ _).alloc (Nat.le_refl _) _).trans (hb.mono (by simp))).setCell (Nat.le_refl _) _).setCell (Nat.le_refl _) _).setCell (Nat.le_refl _) _).setCell (Nat.le_refl _) _).setCell (Nat.le_refl _) _

set_option maxRecDepth 100000 in
theorem zzNext (gp g n ix : Nat) (c : ByteArray) (z1 z2 z3 : Nat → Int) (w : World) (hP : Par w gp g n c ix (tokF z1 z2 z3)) (hn : n ≤ 1048576) (hc : c.size ≤ 1048576) (hi : ix ≤ n) :
    Calls Try.prog 20 #[.pointer (some ⟨gp, 0, none⟩)] w fun e w' => e = .returned (.tuple #[.int .u8 (tkK z1 n (ix + 1)), .int .i32 (tkS z2 n (ix + 1) c), .int .i32 (tkL z3 n (ix + 1))]) ∧ Below w.heap.size w w' := by
  have HP := Lib.hid hP
  clear hP
  go_enter Try.func20, Try.ntmps20
  go_wp2_with fail
  refine (next_any gp g n ix c z1 z2 z3 _ HP.out hn hc hi).mono ?_
  rintro e w1 ⟨rfl, hb⟩
  go_wp2
  go_quiet (fail)
  go_wp2
  go_ret3
  exact ⟨rfl, below_drewN (hb.alloc hb.size _) _⟩

set_option maxRecDepth 100000 in
theorem zzCur (gp g n ix : Nat) (c : ByteArray) (z1 z2 z3 : Nat → Int) (w : World) (hP : Par w gp g n c ix (tokF z1 z2 z3)) (hn : n ≤ 1048576) (hc : c.size ≤ 1048576) (hi : ix ≤ n) :
    Calls Try.prog 21 #[.pointer (some ⟨gp, 0, none⟩)] w fun e w' => e = .returned (.tuple #[.int .u8 (tkK z1 n ix), .int .i32 (tkS z2 n ix c), .int .i32 (tkL z3 n ix)]) ∧ Below w.heap.size w w' := by
  have HP := Lib.hid hP
  clear hP
  go_enter Try.func21, Try.ntmps21
  go_wp2_with fail
  refine (cur_any gp g n ix c z1 z2 z3 _ HP.out hn hc hi).mono ?_
  rintro e w1 ⟨rfl, hb⟩
  go_wp2
  go_quiet (fail)
  go_wp2
  go_ret3
  exact ⟨rfl, below_drewN (hb.alloc hb.size _) _⟩

set_option maxRecDepth 100000 in
set_option maxHeartbeats 4000000 in
theorem law7in (a0 : ByteArray) (a1 a2 a3 : Option Addr) (n cap1 cap2 cap3 : Nat) (z1 z2 z3 : Nat → Int) (ix : Nat) (w : World)
    (r1 : Rd w .u8 a1 n z1) (r2 : Rd w .i32 a2 n z2) (r3 : Rd w .i32 a3 n z3) (hs : a0.size + n + n + n ≤ 1048576) (h8 : a0.size + n + 8 * n + 8 * n ≤ 1048576) (hix : ix ≤ n) :
    Calls Try.prog 7 #[.string a0, .slice a1 n cap1, .slice a2 n cap2, .slice a3 n cap3, .int .i64 ix] w fun e w' => e = .returned (.bool true) ∧ Below w.heap.size w w' := by
  have R1 := Lib.hid r1
  have R2 := Lib.hid r2
  have R3 := Lib.hid r3
  clear r1 r2 r3
  have nq1 := fun (w : World) (a : Option Addr) (n c n' c' : Nat) => run_neq_slice_nil_any (P := Try.prog) w 31 5 a n c n' c' Try.underlying31
  have nq2 := fun (w : World) (a : Option Addr) (n c n' c' : Nat) => run_neq_slice_nil_any (P := Try.prog) w 32 21 a n c n' c' Try.underlying32
  have BB := Lib.hid (Below.refl w.heap.size w)
  go_enter Try.func7, Try.ntmps7
  go_wp2_with fail
  refine (bytes19_ok _ _ _ _ _ _ _ _ _ _ _ _ (by omega)).mono ?_
  rintro e w' ⟨rfl, rfl⟩
  go_upto_if 81 with (fail)
  go_cut [1] (fun s wx => ∃ A cc, s = .slice A n cc ∧ Hid (Rd wx .u8 A n z1) ∧ Hid (Below w.heap.size w wx))
  case first =>
    cases a1 with
    | none =>
      go_wp2_with fail
      go_meet
      exact ⟨none, cap1, rfl, Lib.hid (R1.out.below BB.out), BB⟩
    | some x =>
      obtain ⟨i0, hi, hz0, hz1, hz2⟩ := info_parts info5
      have hmk := fun (W : World) => run_make (P := Try.prog) W 31 5 i0 _ Try.underlying31 hi hz0 .i64 .i64 n n (by omega) (by omega) (by rw [hz2]; omega) (by omega)
      simp only [hz1, Int.toNat_natCast, Nat.mul_one] at hmk
      have HR := Lib.hid (R1.out.below BB.out)
      go_wp2_with (with_reducible refine wpList_copy_splice rfl (.tmp 85) (.tmp 86) 31 31 rfl 5 Try.underlying31 (by kernel_rfl) (some ⟨w.heap.size, 0, none⟩) (some x) n n n cap1 rfl rfl w.heap.size 0 (List.replicate n (.int .u8 0)) 5 (made_row _ _ _ _) ((List.range n).map fun i => Value.int .u8 (z1 i)) (by simp) (fun h0 => ⟨rfl, src_ok HR.out _ h0⟩) (by simp) (by simp [Value.oneCell']) w.heap.size w ((Below.refl _ _).alloc (Nat.le_refl _) _) (Nat.le_refl _) ?_; intro w1 hrow hb1)
      go_meet
      exact ⟨_, n, rfl, Lib.hid (rd_row hrow.out), Lib.hid (BB.out.trans (hb1.mono BB.out.size))⟩
  case rest =>
    obtain ⟨A1, cc1, rfl, Q1, BB1⟩ := hcut
    obtain ⟨W1, rfl⟩ : ∃ W1 : World, W1 = wc := ⟨_, rfl⟩
    clear BB

    go_upto_if 90 with (fail)
    go_cut [2] (fun s wx => ∃ A cc, s = .slice A n cc ∧ Hid (Rd wx .i32 A n z2) ∧ Hid (Below w.heap.size w wx) ∧ Hid (Rd wx .u8 A1 n z1))
    case first =>
      cases a2 with
      | none =>
        go_wp2_with fail
        go_meet
        exact ⟨none, cap2, rfl, Lib.hid (R2.out.below BB1.out), BB1, Q1⟩
      | some x =>
        obtain ⟨i0, hi, hz0, hz1, hz2⟩ := info_parts info21
        have hmk := fun (W : World) => run_make (P := Try.prog) W 32 21 i0 _ Try.underlying32 hi hz0 .i64 .i64 n n (by omega) (by omega) (by rw [hz2]; omega) (by omega)
        simp only [hz1, Int.toNat_natCast, Nat.mul_one] at hmk
        have HR := Lib.hid (R2.out.below BB1.out)
        go_wp2_with (with_reducible refine wpList_copy_splice rfl (.tmp 94) (.tmp 95) 32 32 rfl 21 Try.underlying32 (by kernel_rfl) (some ⟨W1.heap.size, 0, none⟩) (some x) n n n cap2 rfl rfl W1.heap.size 0 (List.replicate n (.int .i32 0)) 21 (made_row _ _ _ _) ((List.range n).map fun i => Value.int .i32 (z2 i)) (by simp) (fun h0 => ⟨rfl, src_ok HR.out _ h0⟩) (by simp) (by simp [Value.oneCell']) W1.heap.size W1 ((Below.refl _ _).alloc (Nat.le_refl _) _) (Nat.le_refl _) ?_; intro w1 hrow hb1)
        go_meet
        exact ⟨_, n, rfl, Lib.hid (rd_row hrow.out), Lib.hid (BB1.out.trans (hb1.mono BB1.out.size)), Lib.hid (Q1.out.below hb1)⟩
    case rest =>
      obtain ⟨A2, cc2, rfl, Q2, BB2, P1⟩ := hcut
      clear Q1
      have Q1 := P1
      clear P1
      obtain ⟨W2, rfl⟩ : ∃ W2 : World, W2 = wc := ⟨_, rfl⟩
      clear BB1

      go_upto_if 99 with (fail)
      go_cut [3] (fun s wx => ∃ A cc, s = .slice A n cc ∧ Hid (Rd wx .i32 A n z3) ∧ Hid (Below w.heap.size w wx) ∧ Hid (Rd wx .u8 A1 n z1) ∧ Hid (Rd wx .i32 A2 n z2))
      case first =>
        cases a3 with
        | none =>
          go_wp2_with fail
          go_meet
          exact ⟨none, cap3, rfl, Lib.hid (R3.out.below BB2.out), BB2, Q1, Q2⟩
        | some x =>
          obtain ⟨i0, hi, hz0, hz1, hz2⟩ := info_parts info21
          have hmk := fun (W : World) => run_make (P := Try.prog) W 32 21 i0 _ Try.underlying32 hi hz0 .i64 .i64 n n (by omega) (by omega) (by rw [hz2]; omega) (by omega)
          simp only [hz1, Int.toNat_natCast, Nat.mul_one] at hmk
          have HR := Lib.hid (R3.out.below BB2.out)
          go_wp2_with (with_reducible refine wpList_copy_splice rfl (.tmp 103) (.tmp 104) 32 32 rfl 21 Try.underlying32 (by kernel_rfl) (some ⟨W2.heap.size, 0, none⟩) (some x) n n n cap3 rfl rfl W2.heap.size 0 (List.replicate n (.int .i32 0)) 21 (made_row _ _ _ _) ((List.range n).map fun i => Value.int .i32 (z3 i)) (by simp) (fun h0 => ⟨rfl, src_ok HR.out _ h0⟩) (by simp) (by simp [Value.oneCell']) W2.heap.size W2 ((Below.refl _ _).alloc (Nat.le_refl _) _) (Nat.le_refl _) ?_; intro w1 hrow hb1)
          go_meet
          exact ⟨_, n, rfl, Lib.hid (rd_row hrow.out), Lib.hid (BB2.out.trans (hb1.mono BB2.out.size)), Lib.hid (Q1.out.below hb1), Lib.hid (Q2.out.below hb1)⟩
      case rest =>
        obtain ⟨A3, cc3, rfl, Q3, BB3, P1, P2⟩ := hcut
        clear Q1
        have Q1 := P1
        clear P1
        clear Q2
        have Q2 := P2
        clear P2
        obtain ⟨W3, rfl⟩ : ∃ W3 : World, W3 = wc := ⟨_, rfl⟩
        clear BB2

        clear nq1 nq2 R1 R2 R3
        go_wp2_with fail
        refine (newParser a0 A1 A2 A3 n cc1 cc2 cc3 z1 z2 z3 ix _ Q1.out Q2.out Q3.out (by omega)).mono ?_
        rintro e W4 ⟨gp, g, rfl, hp, hg, hb⟩
        have HP := Lib.hid hp
        have hBB := BB3.out.trans (hb.mono BB3.out.size)
        have HB := Lib.hid hBB
        have HG := Lib.hid (show w.heap.size ≤ gp from Nat.le_trans (Nat.le_trans BB3.out.size hg) (Nat.le_of_lt hp.2.2.1))
        clear hp hg hb hBB BB3 Q1 Q2 Q3
        go_wp2_with fail
        refine (zzNext gp g n ix a0 z1 z2 z3 _ HP.out (by omega) (by omega) hix).mono ?_
        rintro e W5 ⟨rfl, hb5⟩
        have HP5 := Lib.hid (HP.out.below hb5 HP.out.2.2.2)
        have HB5 := Lib.hid (HB.out.trans (hb5.mono HB.out.size))
        clear hb5 HP HB
        go_wp2_with fail
        refine (zzAdv gp g n ix a0 (tokF z1 z2 z3) _ HP5.out (by omega) hix w.heap.size HG.out).mono ?_
        rintro e W6 ⟨rfl, hp6, hb6⟩
        have HP6 := Lib.hid hp6
        have HB6 := Lib.hid (HB5.out.trans hb6)
        clear hp6 hb6 HP5 HB5
        go_wp2_with fail
        refine (zzCur gp g n (nxt ix n) a0 z1 z2 z3 _ HP6.out (by omega) (by omega) (by unfold nxt; split <;> omega)).mono ?_
        rintro e W7 ⟨rfl, hb7⟩
        have e1 := tkK_nxt z1 n ix
        have e2 := tkS_nxt z2 n ix a0
        have e3 := tkL_nxt z3 n ix
        rw [e1, e2, e3]
        clear e1 e2 e3
        have HB7 := Lib.hid (HB6.out.trans (hb7.mono HB6.out.size))
        clear hb7 HB6 HP6
        go_wp2_with fail
        go_ret
        exact ⟨by simp, HB7.out⟩

set_option maxRecDepth 100000 in
set_option maxHeartbeats 4000000 in
theorem law7 (a0 : ByteArray) (a1 : Option Addr) (len1 cap1 : Nat) (z1 : List Int) (a2 : Option Addr) (len2 cap2 : Nat) (z2 : List Int) (a3 : Option Addr) (len3 cap3 : Nat) (z3 : List Int) (a4 : Int) (w : World) (w0 : a0.size ≤ maxLen) (w1 : Row .u8 w a1 len1 cap1 z1) (w2 : Row .i32 w a2 len2 cap2 z2) (w3 : Row .i32 w a3 len3 cap3 z3) (w4 : (Lit.int .i64 a4).wf = true) :
    Calls Try.prog 7 #[.string a0, .slice a1 len1 cap1, .slice a2 len2 cap2, .slice a3 len3 cap3, .int .i64 a4] w fun e w' => e = .returned (.bool true) ∧ Below w.heap.size w w' := by
  have q1 := w1.rd
  have q2 := w2.rd
  have q3 := w3.rd
  have m1 : len1 ≤ maxLen := by rcases w1 with ⟨-, rfl, -, -⟩ | ⟨x, -, h1, h2, -⟩ <;> omega
  have m2 : len2 ≤ maxLen := by rcases w2 with ⟨-, rfl, -, -⟩ | ⟨x, -, h1, h2, -⟩ <;> omega
  have m3 : len3 ≤ maxLen := by rcases w3 with ⟨-, rfl, -, -⟩ | ⟨x, -, h1, h2, -⟩ <;> omega
  have Q1 := Lib.hid q1
  have Q2 := Lib.hid q2
  have Q3 := Lib.hid q3
  clear w1 w2 w3 q1 q2 q3
  unfold maxLen at w0 m1 m2 m3
  obtain ⟨l4, u4⟩ := i64_bd w4
  clear w4
  by_cases hs : a0.size + len1 + len2 + len3 ≤ 1048576
  · by_cases h8 : a0.size + len1 + 8 * len2 + 8 * len3 ≤ 1048576
    · by_cases e2 : len2 = len1
      · by_cases e3 : len3 = len1
        · subst e2
          subst e3
          by_cases hix : 0 ≤ a4 ∧ a4 ≤ len3
          · obtain ⟨i, rfl⟩ : ∃ i : Nat, a4 = i := ⟨a4.toNat, by omega⟩
            exact law7in a0 a1 a2 a3 len3 cap1 cap2 cap3 _ _ _ i w Q1.out Q2.out Q3.out (by omega) (by omega) (by omega)
          · by_cases t1 : a4 < 0
            · go_enter Try.func7, Try.ntmps7
              go_wp2_with (go_at_call 19; refine (bytes19_ok _ _ _ _ _ _ _ _ _ _ _ _ (by omega)).mono ?_; rintro e w' ⟨rfl, rfl⟩)
              go_ret
              exact ⟨rfl, Below.refl _ _⟩
            · have t2 : (len3 : Int) < a4 := by omega
              go_enter Try.func7, Try.ntmps7
              go_wp2_with (go_at_call 19; refine (bytes19_ok _ _ _ _ _ _ _ _ _ _ _ _ (by omega)).mono ?_; rintro e w' ⟨rfl, rfl⟩)
              go_ret
              exact ⟨rfl, Below.refl _ _⟩
        · have ne : ((len3 : Int) != (len1 : Int)) = true := by simp; omega
          subst e2
          go_enter Try.func7, Try.ntmps7
          go_wp2_with (go_at_call 19; refine (bytes19_ok _ _ _ _ _ _ _ _ _ _ _ _ (by omega)).mono ?_; rintro e w' ⟨rfl, rfl⟩)
          go_ret
          exact ⟨rfl, Below.refl _ _⟩
      · have ne : ((len2 : Int) != (len1 : Int)) = true := by simp; omega
        go_enter Try.func7, Try.ntmps7
        go_wp2_with (go_at_call 19; refine (bytes19_ok _ _ _ _ _ _ _ _ _ _ _ _ (by omega)).mono ?_; rintro e w' ⟨rfl, rfl⟩)
        go_ret
        exact ⟨rfl, Below.refl _ _⟩
    · go_enter Try.func7, Try.ntmps7
      go_wp2_with (go_at_call 19; refine (bytes19_ok _ _ _ _ _ _ _ _ _ _ _ _ (by omega)).mono ?_; rintro e w' ⟨rfl, rfl⟩)
      go_ret
      exact ⟨rfl, Below.refl _ _⟩
  · go_enter Try.func7, Try.ntmps7
    go_wp2_with (go_at_call 19; refine (bytes19_no _ _ _ _ _ _ _ _ _ _ _ _ (by omega)).mono ?_; rintro e w' ⟨rfl, rfl⟩)
    go_ret
    exact ⟨rfl, Below.refl _ _⟩
end Go.Proofs.Ytcaiehnihgcegaa.PA

