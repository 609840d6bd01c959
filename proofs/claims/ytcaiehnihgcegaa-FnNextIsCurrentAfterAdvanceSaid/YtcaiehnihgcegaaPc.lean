/- FnAdvanceScript: the walk. Printed by gen_adv.py. -/
import Derived.Test.YtcaiehnihgcegaaPb
import Derived.Laws.CopyOwn
namespace Go.Proofs.Ytcaiehnihgcegaa.PA
open Go.RowKit Go.Proofs.Ytcaiehnihgcegaa.TB
set_option linter.unusedVariables false
/-- What the walk is told of a slice of integers that came in. -/
def Row (k : IntKind) (w : World) (a : Option Addr) (len cap : Nat) (zs : List Int) : Prop :=
  (a = none ∧ len = 0 ∧ cap = 0 ∧ zs = []) ∨
  ∃ x, a = some x ∧ len ≤ cap ∧ cap ≤ maxLen ∧ zs.length = cap ∧ (∀ i, i < zs.length → w.cell? (x.add i) = some (.int k (zs.getD i 0))) ∧ ∀ n ∈ zs, (Lit.int k n).wf = true
theorem cell_lt {w : World} {a : Addr} {v : Value} (h : w.cell? a = some v) : a.block < w.heap.size := by
  rcases Nat.lt_or_ge a.block w.heap.size with hlt | hge
  · exact hlt
  · unfold World.cell? at h; rw [Array.getElem?_eq_none hge] at h; cases h
theorem add_block (a : Addr) (n : Nat) : (a.add n).block = a.block := by unfold Addr.add; split <;> rfl
theorem Row.rd {k : IntKind} {w : World} {a : Option Addr} {len cap : Nat} {zs : List Int} (h : Row k w a len cap zs) : Rd w k a len (fun i => zs.getD i 0) := by
  intro hl
  rcases h with ⟨rfl, rfl, rfl, rfl⟩ | ⟨x, rfl, h1, h2, h3, h4, h5⟩
  · omega
  · refine ⟨x, rfl, ?_, fun i hi => h4 i (by omega)⟩
    have := cell_lt (h4 0 (by omega))
    rw [add_block] at this
    exact this
theorem Rd.below {w w' : World} {k : IntKind} {A : Option Addr} {n : Nat} {z : Nat → Int} (h : Rd w k A n z) (hb : Below w.heap.size w w') : Rd w' k A n z := by
  intro hn
  obtain ⟨ad, e, hl, hc⟩ := h hn
  exact ⟨ad, e, Nat.lt_of_lt_of_le hl hb.size, fun i hi => by rw [hb.cell (by rw [add_block]; exact hl)]; exact hc i hi⟩
theorem rd_row {w : World} {g : Nat} {t : TypeId} {cur : List Value} {k : IntKind} {n : Nat} {z : Nat → Int} (h : w.heap[g]? = some (.cells (splice cur 0 ((List.range n).map fun i => Value.int k (z i))).toArray t (0, 0))) : Rd w k (some ⟨g, 0, none⟩) n z := by
  intro hn
  have hb : Blk w g t _ := h
  refine ⟨_, rfl, hb.lt, fun i hi => ?_⟩
  rw [Addr.add_mid, Nat.zero_add, hb.cell]
  simp only [splice, List.take_zero, List.nil_append, List.getElem?_toArray]
  rw [List.getElem?_append_left (by simpa using hi)]
  simp [hi]
theorem made_row (w : World) (t : TypeId) (v : Value) (n : Nat) : (w.alloc (.cells (madeCells #[v] n) t)).heap[w.heap.size]? = some (.cells (List.replicate n v).toArray t (0, 0)) := by
  rw [← toList_madeCells_one]; simpa using heap_alloc_new w (.cells (madeCells #[v] n) t)
theorem src_ok {w : World} {k : IntKind} {A : Option Addr} {n : Nat} {z : Nat → Int} (h : Rd w k A n z) (o : Obj) (h0 : 0 < ((List.range n).map fun i => Value.int k (z i)).length) :
    ∃ ad, A = some ad ∧ ∀ j v, ((List.range n).map fun i => Value.int k (z i))[j]? = some v → (w.alloc o).cell? (ad.add j) = some v := by
  obtain ⟨ad, e, hl, hc⟩ := h (by simpa using h0)
  refine ⟨ad, e, fun j v hj => ?_⟩
  have hlt : j < n := by have := (List.getElem?_eq_some_iff.1 hj).1; simpa using this
  simp [hlt] at hj
  rw [World.cell?_alloc_lt w o _ (by rw [add_block]; exact hl), hc j hlt, hj]

set_option maxRecDepth 100000 in
theorem bytes14_ok (c : ByteArray) (A1 A2 A3 : Option Addr) (n1 n2 n3 c1 c2 c3 : Nat) (a4 a5 : Int) (w : World) (h : c.size + n1 + n2 + n3 ≤ 1048576) : Calls Try.prog 14 #[.string c, .slice A1 n1 c1, .slice A2 n2 c2, .slice A3 n3 c3, .int .i64 a4, .int .i64 a5] w fun e w' => e = .returned (.bool true) ∧ w = w' := by
  go_enter Try.func14, Try.ntmps14
  go_wp2
  go_ret
  exact ⟨rfl, rfl⟩
set_option maxRecDepth 100000 in
theorem bytes14_no (c : ByteArray) (A1 A2 A3 : Option Addr) (n1 n2 n3 c1 c2 c3 : Nat) (a4 a5 : Int) (w : World) (h : ¬ c.size + n1 + n2 + n3 ≤ 1048576) : Calls Try.prog 14 #[.string c, .slice A1 n1 c1, .slice A2 n2 c2, .slice A3 n3 c3, .int .i64 a4, .int .i64 a5] w fun e w' => e = .returned (.bool false) ∧ w = w' := by
  go_enter Try.func14, Try.ntmps14
  go_wp2
  all_goals (go_ret; exact ⟨rfl, rfl⟩)

set_option maxRecDepth 100000 in
theorem bytes19_ok (c : ByteArray) (A1 A2 A3 : Option Addr) (n1 n2 n3 c1 c2 c3 : Nat) (a4 : Int) (w : World) (h : c.size + n1 + n2 + n3 ≤ 1048576) : Calls Try.prog 19 #[.string c, .slice A1 n1 c1, .slice A2 n2 c2, .slice A3 n3 c3, .int .i64 a4] w fun e w' => e = .returned (.bool true) ∧ w = w' := by
  go_enter Try.func19, Try.ntmps19
  go_wp2
  go_ret
  exact ⟨rfl, rfl⟩
set_option maxRecDepth 100000 in
theorem bytes19_no (c : ByteArray) (A1 A2 A3 : Option Addr) (n1 n2 n3 c1 c2 c3 : Nat) (a4 : Int) (w : World) (h : ¬ c.size + n1 + n2 + n3 ≤ 1048576) : Calls Try.prog 19 #[.string c, .slice A1 n1 c1, .slice A2 n2 c2, .slice A3 n3 c3, .int .i64 a4] w fun e w' => e = .returned (.bool false) ∧ w = w' := by
  go_enter Try.func19, Try.ntmps19
  go_wp2
  all_goals (go_ret; exact ⟨rfl, rfl⟩)

set_option maxRecDepth 100000 in
theorem zzAdv (gp g n ix : Nat) (c : ByteArray) (f : Nat → Nat → Value) (w : World) (hP : Par w gp g n c ix f) (hn : n ≤ 1048576) (hi : ix ≤ n) (B : Nat) (hB : B ≤ gp) :
    Calls Try.prog 16 #[.pointer (some ⟨gp, 0, none⟩)] w fun e w' => e = .returned (.tuple #[]) ∧ Par w' gp g n c (nxt ix n) f ∧ Below B w w' := by
  have HP := Lib.hid hP
  clear hP
  go_enter Try.func16, Try.ntmps16
  go_wp2_with (go_at_call 30; refine (adv gp g n ix c f _ HP.out hn hi B hB).mono ?_; rintro e w1 ⟨rfl, hp, hb⟩)
  go_end0
  exact ⟨rfl, hp, hb⟩
set_option maxRecDepth 100000 in
theorem zzIndex (gp g n ix : Nat) (c : ByteArray) (f : Nat → Nat → Value) (w : World) (hP : Par w gp g n c ix f) :
    Calls Try.prog 17 #[.pointer (some ⟨gp, 0, none⟩)] w fun e w' => e = .returned (.int .i64 ix) ∧ w = w' := by
  have c2 := hP.1.2.1
  clear hP
  go_enter Try.func17, Try.ntmps17
  go_wp2
  go_ret
  exact ⟨rfl, rfl⟩
theorem zzMin (a b : Nat) (w : World) (h : a ≤ 4611686018427387904) : Calls Try.prog 18 #[.int .i64 a, .int .i64 b] w fun e w' => e = .returned (.int .i64 (min a b : Nat)) ∧ w = w' := by
  by_cases hl : a < b
  · rw [Nat.min_eq_left (by omega)]
    go_enter Try.func18, Try.ntmps18
    go_wp2
    go_ret
    exact ⟨rfl, rfl⟩
  · rw [Nat.min_eq_right (by omega)]
    go_enter Try.func18, Try.ntmps18
    go_wp2
    go_ret
    exact ⟨rfl, rfl⟩

set_option maxRecDepth 100000 in
set_option maxHeartbeats 4000000 in
theorem law6in (a0 : ByteArray) (a1 a2 a3 : Option Addr) (n cap1 cap2 cap3 : Nat) (z1 z2 z3 : Nat → Int) (ix k : Nat) (w : World)
    (r1 : Rd w .u8 a1 n z1) (r2 : Rd w .i32 a2 n z2) (r3 : Rd w .i32 a3 n z3) (hs : a0.size + n + n + n ≤ 1048576) (h8 : a0.size + n + 8 * n + 8 * n ≤ 1048576) (hix : ix ≤ n) (hk : k ≤ 65536) :
    Calls Try.prog 6 #[.string a0, .slice a1 n cap1, .slice a2 n cap2, .slice a3 n cap3, .int .i64 ix, .int .i64 k] w fun e w' => e = .returned (.bool true) ∧ Below w.heap.size w w' := by
  have R1 := Lib.hid r1
  have R2 := Lib.hid r2
  have R3 := Lib.hid r3
  clear r1 r2 r3
  have nq1 := fun (w : World) (a : Option Addr) (n c n' c' : Nat) => run_neq_slice_nil_any (P := Try.prog) w 31 5 a n c n' c' Try.underlying31
  have nq2 := fun (w : World) (a : Option Addr) (n c n' c' : Nat) => run_neq_slice_nil_any (P := Try.prog) w 32 21 a n c n' c' Try.underlying32
  have BB := Lib.hid (Below.refl w.heap.size w)
  go_enter Try.func6, Try.ntmps6
  go_wp2_with fail
  refine (bytes14_ok _ _ _ _ _ _ _ _ _ _ _ _ _ (by omega)).mono ?_
  rintro e w' ⟨rfl, rfl⟩
  go_upto_if 87 with (fail)
  go_cut [1] (fun s wx => ∃ A cc, s = .slice A n cc ∧ Hid (Rd wx .u8 A n z1) ∧ Hid (Below w.heap.size w wx))
  case first =>
    cases a1 with
    | none =>
      go_wp2_with fail
      go_meet
      exact ⟨none, cap1, rfl, Lib.hid (R1.out.below BB.out), BB⟩
    | some x =>
      obtain ⟨i0, hi, hz0, hz1, hz2⟩ := info_parts info5
      have hmk := fun (W : World) => run_make (P := Try.prog) W 31 5 i0 _ Try.underlying31 hi hz0 .i64 .i64 n n (by omega) (by omega) (by rw [hz2]; omega) (by omega)
      simp only [hz1, Int.toNat_natCast, Nat.mul_one] at hmk
      have HR := Lib.hid (R1.out.below BB.out)
      go_wp2_with (with_reducible refine wpList_copy_splice rfl (.tmp 91) (.tmp 92) 31 31 rfl 5 Try.underlying31 (by kernel_rfl) (some ⟨w.heap.size, 0, none⟩) (some x) n n n cap1 rfl rfl w.heap.size 0 (List.replicate n (.int .u8 0)) 5 (made_row _ _ _ _) ((List.range n).map fun i => Value.int .u8 (z1 i)) (by simp) (fun h0 => ⟨rfl, src_ok HR.out _ h0⟩) (by simp) (by simp [Value.oneCell']) w.heap.size w ((Below.refl _ _).alloc (Nat.le_refl _) _) (Nat.le_refl _) ?_; intro w1 hrow hb1)
      go_meet
      exact ⟨_, n, rfl, Lib.hid (rd_row hrow.out), Lib.hid (BB.out.trans (hb1.mono BB.out.size))⟩
  case rest =>
    obtain ⟨A1, cc1, rfl, Q1, BB1⟩ := hcut
    obtain ⟨W1, rfl⟩ : ∃ W1 : World, W1 = wc := ⟨_, rfl⟩
    clear BB

    go_upto_if 96 with (fail)
    go_cut [2] (fun s wx => ∃ A cc, s = .slice A n cc ∧ Hid (Rd wx .i32 A n z2) ∧ Hid (Below w.heap.size w wx) ∧ Hid (Rd wx .u8 A1 n z1))
    case first =>
      cases a2 with
      | none =>
        go_wp2_with fail
        go_meet
        exact ⟨none, cap2, rfl, Lib.hid (R2.out.below BB1.out), BB1, Q1⟩
      | some x =>
        obtain ⟨i0, hi, hz0, hz1, hz2⟩ := info_parts info21
        have hmk := fun (W : World) => run_make (P := Try.prog) W 32 21 i0 _ Try.underlying32 hi hz0 .i64 .i64 n n (by omega) (by omega) (by rw [hz2]; omega) (by omega)
        simp only [hz1, Int.toNat_natCast, Nat.mul_one] at hmk
        have HR := Lib.hid (R2.out.below BB1.out)
        go_wp2_with (with_reducible refine wpList_copy_splice rfl (.tmp 100) (.tmp 101) 32 32 rfl 21 Try.underlying32 (by kernel_rfl) (some ⟨W1.heap.size, 0, none⟩) (some x) n n n cap2 rfl rfl W1.heap.size 0 (List.replicate n (.int .i32 0)) 21 (made_row _ _ _ _) ((List.range n).map fun i => Value.int .i32 (z2 i)) (by simp) (fun h0 => ⟨rfl, src_ok HR.out _ h0⟩) (by simp) (by simp [Value.oneCell']) W1.heap.size W1 ((Below.refl _ _).alloc (Nat.le_refl _) _) (Nat.le_refl _) ?_; intro w1 hrow hb1)
        go_meet
        exact ⟨_, n, rfl, Lib.hid (rd_row hrow.out), Lib.hid (BB1.out.trans (hb1.mono BB1.out.size)), Lib.hid (Q1.out.below hb1)⟩
    case rest =>
      obtain ⟨A2, cc2, rfl, Q2, BB2, P1⟩ := hcut
      clear Q1
      have Q1 := P1
      clear P1
      obtain ⟨W2, rfl⟩ : ∃ W2 : World, W2 = wc := ⟨_, rfl⟩
      clear BB1

      go_upto_if 105 with (fail)
      go_cut [3] (fun s wx => ∃ A cc, s = .slice A n cc ∧ Hid (Rd wx .i32 A n z3) ∧ Hid (Below w.heap.size w wx) ∧ Hid (Rd wx .u8 A1 n z1) ∧ Hid (Rd wx .i32 A2 n z2))
      case first =>
        cases a3 with
        | none =>
          go_wp2_with fail
          go_meet
          exact ⟨none, cap3, rfl, Lib.hid (R3.out.below BB2.out), BB2, Q1, Q2⟩
        | some x =>
          obtain ⟨i0, hi, hz0, hz1, hz2⟩ := info_parts info21
          have hmk := fun (W : World) => run_make (P := Try.prog) W 32 21 i0 _ Try.underlying32 hi hz0 .i64 .i64 n n (by omega) (by omega) (by rw [hz2]; omega) (by omega)
          simp only [hz1, Int.toNat_natCast, Nat.mul_one] at hmk
          have HR := Lib.hid (R3.out.below BB2.out)
          go_wp2_with (with_reducible refine wpList_copy_splice rfl (.tmp 109) (.tmp 110) 32 32 rfl 21 Try.underlying32 (by kernel_rfl) (some ⟨W2.heap.size, 0, none⟩) (some x) n n n cap3 rfl rfl W2.heap.size 0 (List.replicate n (.int .i32 0)) 21 (made_row _ _ _ _) ((List.range n).map fun i => Value.int .i32 (z3 i)) (by simp) (fun h0 => ⟨rfl, src_ok HR.out _ h0⟩) (by simp) (by simp [Value.oneCell']) W2.heap.size W2 ((Below.refl _ _).alloc (Nat.le_refl _) _) (Nat.le_refl _) ?_; intro w1 hrow hb1)
          go_meet
          exact ⟨_, n, rfl, Lib.hid (rd_row hrow.out), Lib.hid (BB2.out.trans (hb1.mono BB2.out.size)), Lib.hid (Q1.out.below hb1), Lib.hid (Q2.out.below hb1)⟩
      case rest =>
        obtain ⟨A3, cc3, rfl, Q3, BB3, P1, P2⟩ := hcut
        clear Q1
        have Q1 := P1
        clear P1
        clear Q2
        have Q2 := P2
        clear P2
        obtain ⟨W3, rfl⟩ : ∃ W3 : World, W3 = wc := ⟨_, rfl⟩
        clear BB2

        clear nq1 nq2 R1 R2 R3
        go_wp2_with fail
        refine (newParser a0 A1 A2 A3 n cc1 cc2 cc3 z1 z2 z3 ix _ Q1.out Q2.out Q3.out (by omega)).mono ?_
        rintro e W4 ⟨gp, g, rfl, hp, hg, hb⟩
        have HP := Lib.hid hp
        have hBB := BB3.out.trans (hb.mono BB3.out.size)
        have HB := Lib.hid hBB
        have HG := Lib.hid (show w.heap.size ≤ gp from Nat.le_trans (Nat.le_trans BB3.out.size hg) (Nat.le_of_lt hp.2.2.1))
        clear hp hg hb hBB BB3 Q1 Q2 Q3
        go_wp2_with fail
        go_loopw [17] (fun i wr => ∃ j : Nat, j ≤ k ∧ i = .int .i64 j ∧ Hid (Par wr gp g n a0 (min (ix + j) n) (tokF z1 z2 z3)) ∧ Hid (Below w.heap.size w wr)) (fun i _ => k - (intOf i).toNat)
        case atStart => exact ⟨0, Nat.zero_le _, rfl, by rw [Nat.add_zero, Nat.min_eq_left hix]; exact HP, HB⟩
        case round =>
          obtain ⟨j, hj, rfl, P, BW⟩ := hrel
          clear HP HB
          by_cases hlt : j < k
          · go_wp2_with (go_at_call 16; refine (zzAdv gp g n (min (ix + j) n) a0 (tokF z1 z2 z3) _ P.out (by omega) (Nat.min_le_right _ _) w.heap.size HG.out).mono ?_; rintro e w5 ⟨rfl, hp5, hb5⟩)
            go_roundw
            case rel =>
              refine ⟨j + 1, by omega, by go_num, Lib.hid ?_, Lib.hid (BW.out.trans hb5)⟩
              have e : nxt (min (ix + j) n) n = min (ix + (j + 1)) n := by unfold nxt; split <;> omega
              rw [e] at hp5; exact hp5
            case measure => simp [intOf]; omega
          · obtain rfl : j = k := by omega
            go_wp2_with (first
              | (go_at_call 17; refine (zzIndex gp g n (min (ix + j) n) a0 (tokF z1 z2 z3) _ P.out).mono ?_; rintro e w5 ⟨rfl, rfl⟩)
              | (go_at_call 18; refine (zzMin (ix + j) n _ (by omega)).mono ?_; rintro e w6 ⟨rfl, rfl⟩))
            go_ret
            exact ⟨by simp, BW.out⟩

theorem i64_bd {a : Int} (h : (Lit.int .i64 a).wf = true) : -9223372036854775808 ≤ a ∧ a ≤ 9223372036854775807 := by
  unfold Lit.wf at h
  rw [Bool.and_eq_true] at h
  exact ⟨of_decide_eq_true h.1, of_decide_eq_true h.2⟩
set_option maxRecDepth 100000 in
set_option maxHeartbeats 4000000 in
theorem law6 (a0 : ByteArray) (a1 : Option Addr) (len1 cap1 : Nat) (z1 : List Int) (a2 : Option Addr) (len2 cap2 : Nat) (z2 : List Int) (a3 : Option Addr) (len3 cap3 : Nat) (z3 : List Int) (a4 : Int) (a5 : Int) (w : World) (w0 : a0.size ≤ maxLen) (w1 : Row .u8 w a1 len1 cap1 z1) (w2 : Row .i32 w a2 len2 cap2 z2) (w3 : Row .i32 w a3 len3 cap3 z3) (w4 : (Lit.int .i64 a4).wf = true) (w5 : (Lit.int .i64 a5).wf = true) :
    Calls Try.prog 6 #[.string a0, .slice a1 len1 cap1, .slice a2 len2 cap2, .slice a3 len3 cap3, .int .i64 a4, .int .i64 a5] w fun e w' => e = .returned (.bool true) ∧ Below w.heap.size w w' := by
  have q1 := w1.rd
  have q2 := w2.rd
  have q3 := w3.rd
  have m1 : len1 ≤ maxLen := by rcases w1 with ⟨-, rfl, -, -⟩ | ⟨x, -, h1, h2, -⟩ <;> omega
  have m2 : len2 ≤ maxLen := by rcases w2 with ⟨-, rfl, -, -⟩ | ⟨x, -, h1, h2, -⟩ <;> omega
  have m3 : len3 ≤ maxLen := by rcases w3 with ⟨-, rfl, -, -⟩ | ⟨x, -, h1, h2, -⟩ <;> omega
  have Q1 := Lib.hid q1
  have Q2 := Lib.hid q2
  have Q3 := Lib.hid q3
  clear w1 w2 w3 q1 q2 q3
  unfold maxLen at w0 m1 m2 m3
  obtain ⟨l4, u4⟩ := i64_bd w4
  obtain ⟨l5, u5⟩ := i64_bd w5
  clear w4 w5
  by_cases hs : a0.size + len1 + len2 + len3 ≤ 1048576
  · by_cases h8 : a0.size + len1 + 8 * len2 + 8 * len3 ≤ 1048576
    · by_cases e2 : len2 = len1
      · by_cases e3 : len3 = len1
        · subst e2
          subst e3
          by_cases hix : 0 ≤ a4 ∧ a4 ≤ len3 ∧ 0 ≤ a5 ∧ a5 ≤ 65536
          · obtain ⟨i, rfl⟩ : ∃ i : Nat, a4 = i := ⟨a4.toNat, by omega⟩
            obtain ⟨k, rfl⟩ : ∃ k : Nat, a5 = k := ⟨a5.toNat, by omega⟩
            exact law6in a0 a1 a2 a3 len3 cap1 cap2 cap3 _ _ _ i k w Q1.out Q2.out Q3.out (by omega) (by omega) (by omega) (by omega)
          · by_cases t1 : a4 < 0
            · go_enter Try.func6, Try.ntmps6
              go_wp2_with (go_at_call 14; refine (bytes14_ok _ _ _ _ _ _ _ _ _ _ _ _ _ (by omega)).mono ?_; rintro e w' ⟨rfl, rfl⟩)
              go_ret
              exact ⟨rfl, Below.refl _ _⟩
            · by_cases t2 : (len3 : Int) < a4
              · go_enter Try.func6, Try.ntmps6
                go_wp2_with (go_at_call 14; refine (bytes14_ok _ _ _ _ _ _ _ _ _ _ _ _ _ (by omega)).mono ?_; rintro e w' ⟨rfl, rfl⟩)
                go_ret
                exact ⟨rfl, Below.refl _ _⟩
              · by_cases t3 : a5 < 0
                · go_enter Try.func6, Try.ntmps6
                  go_wp2_with (go_at_call 14; refine (bytes14_ok _ _ _ _ _ _ _ _ _ _ _ _ _ (by omega)).mono ?_; rintro e w' ⟨rfl, rfl⟩)
                  go_ret
                  exact ⟨rfl, Below.refl _ _⟩
                · have t4 : 65536 < a5 := by omega
                  go_enter Try.func6, Try.ntmps6
                  go_wp2_with (go_at_call 14; refine (bytes14_ok _ _ _ _ _ _ _ _ _ _ _ _ _ (by omega)).mono ?_; rintro e w' ⟨rfl, rfl⟩)
                  go_ret
                  exact ⟨rfl, Below.refl _ _⟩
        · have ne : ((len3 : Int) != (len1 : Int)) = true := by simp; omega
          subst e2
          go_enter Try.func6, Try.ntmps6
          go_wp2_with (go_at_call 14; refine (bytes14_ok _ _ _ _ _ _ _ _ _ _ _ _ _ (by omega)).mono ?_; rintro e w' ⟨rfl, rfl⟩)
          go_ret
          exact ⟨rfl, Below.refl _ _⟩
      · have ne : ((len2 : Int) != (len1 : Int)) = true := by simp; omega
        go_enter Try.func6, Try.ntmps6
        go_wp2_with (go_at_call 14; refine (bytes14_ok _ _ _ _ _ _ _ _ _ _ _ _ _ (by omega)).mono ?_; rintro e w' ⟨rfl, rfl⟩)
        go_ret
        exact ⟨rfl, Below.refl _ _⟩
    · go_enter Try.func6, Try.ntmps6
      go_wp2_with (go_at_call 14; refine (bytes14_ok _ _ _ _ _ _ _ _ _ _ _ _ _ (by omega)).mono ?_; rintro e w' ⟨rfl, rfl⟩)
      go_ret
      exact ⟨rfl, Below.refl _ _⟩
  · go_enter Try.func6, Try.ntmps6
    go_wp2_with (go_at_call 14; refine (bytes14_no _ _ _ _ _ _ _ _ _ _ _ _ _ (by omega)).mono ?_; rintro e w' ⟨rfl, rfl⟩)
    go_ret
    exact ⟨rfl, Below.refl _ _⟩
end Go.Proofs.Ytcaiehnihgcegaa.PA

