/- FnMangleCornersCaseTable: the shorthand is run (zzRunShorthand). -/
import Derived.Test.YtnolnlekdlfeaaaDoorMe
import Derived.Test.YtnolnlekdlfeaaaDoorMc
import Derived.Test.YtnolnlekdlfeaaaDoorJf
namespace Go.Proofs.YtnolnlekdlfeaaaDoor.ZT
open Go.RowKit Go.Proofs.YtnolnlekdlfeaaaDoor.TB
set_option linter.unusedVariables false
/-- What zzRunShorthand answers. -/
def RunP (n : Nat) (Q : Nat → Nat) (im mw : Bool) (l : Int) (w : World) (e : Ending) (w' : World) : Prop :=
  ∃ d rg tb, e = .returned (.tuple #[.pointer (some ⟨d, 0, none⟩), .slice (some ⟨rg, 0, none⟩) 1 1, .agg #[.int .i32 l, .int .i32 13]]) ∧ Below w.heap.size w w' ∧
   (((¬ ∃ bs es, Acc n Q bs es) ∧ Tab w' rg 54 2 1 (rc (fun _ => some d) (fun _ => l)) ∧ Blk w' d 40 #[.string ⟨#[98, 111, 114, 100, 101, 114, 45, 114, 97, 100, 105, 117, 115]⟩, .slice (some ⟨tb, 0, none⟩) n n, .int .i32 l, .int .i32 13, .int .u16 66, .bool im] ∧ Tab w' tb 47 7 n (tc (fun i => kq (Q i)) (fun i => tq (Q i)) (fun _ => 0) (fun _ => 0))) ∨
    ∃ bs es, Acc n Q bs es ∧ ∃ d' L tg cp, Tab w' rg 54 2 1 (rc (fD (fun _ => some d) (fun _ => 0) d') (fL (fun _ => l) (fun _ => 0))) ∧
      Blk w' d' 40 #[.string ⟨#[98, 111, 114, 100, 101, 114, 45, 114, 97, 100, 105, 117, 115]⟩, .slice (some ⟨tg, 0, none⟩) L cp, .int .i32 l, .int .i32 13, .int .u16 66, .bool im] ∧ GS (SQ Q bs es n 0 4) mw w' tg L ∧ d ≠ d' ∧ ∃ cs, Blk w' d 40 cs)
theorem GS_ne {S : Nat → Cn} {mw : Bool} {w : World} {tg L gk : Nat} {x : Int} (h : GS S mw w tg L) (hc : w.cell? ⟨gk, 0, none⟩ = some (.int .i32 x)) : ¬ tg = gk := by
  rintro rfl
  have key : ∀ (f : Nat → Nat → Value), f 0 0 = .pointer none → 0 < L → ¬ TR w (some ⟨tg, 0, none⟩) L f := fun f hf hL ht => by
    obtain ⟨b, o, e, _, hh⟩ := ht hL
    injection e with e
    injection e with e1 e2
    subst e1 e2
    have h1 := hh 0 0 hL (by omega)
    rw [hf] at h1
    rw [show (0 + 0 * 7 + 0 : Nat) = 0 from rfl, hc] at h1
    cases h1
  have c1 := cm_le (fun i => (S i).k) (fun i => (S i).t)
  unfold GS GV at h
  split at h
  · exact key _ rfl (by omega) h.2
  · exact key _ rfl (by omega) h.2
set_option maxRecDepth 100000 in
set_option maxHeartbeats 8000000 in
theorem run7 (A : Option Addr) (n c : Nat) (z : Nat → Int) (Q : Nat → Nat) (im mw : Bool) (l : Int) (w : World) (r : BR w A n z) (hn : n ≤ 4096) (hz : ∀ i, i < n → 0 ≤ z i ∧ z i ≤ 255) (hq : ∀ i, i < n → Q i < 8 ∧ z i % 8 = (Q i : Int)) :
    Calls Tryd.prog 7 #[.slice A n c, .bool im, .bool mw, .int .i32 l] w (RunP n Q im mw l w) := by
  obtain ⟨i0, hi, hz0, hz1, hz2⟩ := info_parts info_tok
  have hmk := fun (W : World) => run_make (P := Tryd.prog) W 36 47 i0 _ Tryd.underlying36 hi hz0 .i64 .i64 n n (by omega) (by omega) (by rw [hz2]; omega) (by omega)
  simp only [hz1, Int.toNat_natCast] at hmk
  have R := Lib.hid r
  have HZ := Lib.hid hz
  have HQ := Lib.hid hq
  clear r hz hq
  have T0 := Lib.hid (Tab.new (w.alloc (.cells #[.int .i32 0, .int .i32 0] 30)) 47 #[.pointer none, .string ⟨#[]⟩, .int .i32 0, .int .u32 0, .int .u16 0, .int .u8 0, .int .u8 0] n 7 rfl (tzq Q 0) (fun i j _ hj => by unfold tzq; simp))
  have B0 := Lib.hid (show Below w.heap.size w ((w.alloc (.cells #[.int .i32 0, .int .i32 0] 30)).alloc (.cells (madeCells #[.pointer none, .string ⟨#[]⟩, .int .i32 0, .int .u32 0, .int .u16 0, .int .u8 0, .int .u8 0] (n * 7)) 47)) from ((Below.refl _ _).alloc (Nat.le_refl _) _).alloc (by simp) _)
  have K0 := Lib.hid (show Blk ((w.alloc (.cells #[.int .i32 0, .int .i32 0] 30)).alloc (.cells (madeCells #[.pointer none, .string ⟨#[]⟩, .int .i32 0, .int .u32 0, .int .u16 0, .int .u8 0, .int .u8 0] (n * 7)) 47)) w.heap.size 30 #[.int .i32 0, .int .i32 0] from (Blk.new w 30 _).alloc _)
  go_enter Tryd.func7, Tryd.ntmps7
  go_wp2_with fail
  simp only [World.size_alloc] at T0 ⊢
  generalize (w.alloc (.cells #[.int .i32 0, .int .i32 0] 30)).alloc (.cells (madeCells #[.pointer none, .string ⟨#[]⟩, .int .i32 0, .int .u32 0, .int .u16 0, .int .u8 0, .int .u8 0] (n * 7)) 47) = W0 at *
  clear hmk
  obtain ⟨tb, htb⟩ : ∃ tb, w.heap.size + 1 = tb := ⟨_, rfl⟩
  obtain ⟨gk, hgk⟩ : ∃ gk, w.heap.size = gk := ⟨_, rfl⟩
  have HTB := Lib.hid (And.intro htb hgk)
  rw [htb] at T0
  rw [hgk] at K0
  simp only [htb]
  simp only [hgk]
  clear htb hgk

  go_loopw [13] (fun i wr => ∃ k : Nat, k ≤ n ∧ i = .int .i64 k ∧ Hid (Tab wr tb 47 7 n (tzq Q k)) ∧ Hid (Below w.heap.size w wr) ∧ Hid (Blk wr gk 30 #[.int .i32 0, .int .i32 0])) (fun i _ => n - (intOf i).toNat)
  case atStart => exact ⟨0, Nat.zero_le _, rfl, T0, B0, K0⟩
  case round =>
    obtain ⟨k, hkn, rfl, TT, BB, KK⟩ := hrel
    clear T0 B0 K0
    by_cases hlt : k < n
    · obtain ⟨b, o, e, hb, hc⟩ := R.out (by omega)
      subst e
      have x0 : wr.cell? ⟨b, o + k, none⟩ = some (.int .u8 (z k)) := by rw [BB.out.cell hb]; exact hc k hlt
      clear hc
      have q1 : (0 : Int) ≤ (k : Int) := by omega
      have q2 : (k : Int) < (n : Int) := by omega
      have TQ := Lib.hid (fun W => tok16q (z k) (Q k) W (HQ.out k hlt).1 (HQ.out k hlt).2 (HZ.out k hlt).1 (HZ.out k hlt).2)
      obtain ⟨tk, HTK⟩ : ∃ tk, Hid (tq (Q k) = tk) := ⟨_, Lib.hid rfl⟩
      obtain ⟨kk, HKK⟩ : ∃ kk, Hid (kq (Q k) = kk) := ⟨_, Lib.hid rfl⟩
      rw [HTK.out, HKK.out] at TQ
      go_wp2_with fail
      refine (TQ.out _).mono ?_
      rintro e W1 ⟨rfl, hb1⟩
      have T1 := Lib.hid (TT.out.below hb1 TT.out.lt)
      have B1 := Lib.hid (BB.out.trans (hb1.mono BB.out.size))
      have K1 := Lib.hid (KK.out.below hb1 KK.out.lt)
      clear hb1 TT BB KK x0
      have y0 : W1.cell? ⟨tb, k * 7, none⟩ = some (.pointer none) := by have := T1.out.cell (i := k) (j := 0) hlt (by omega); simpa [tzq] using this
      have y1 : W1.cell? ⟨tb, k * 7 + 1, none⟩ = some (.string ⟨#[]⟩) := by have := T1.out.cell (i := k) (j := 1) hlt (by omega); simpa [tzq] using this
      have y2 : W1.cell? ⟨tb, k * 7 + 2, none⟩ = some (.int .i32 0) := by have := T1.out.cell (i := k) (j := 2) hlt (by omega); simpa [tzq] using this
      have y3 : W1.cell? ⟨tb, k * 7 + 3, none⟩ = some (.int .u32 0) := by have := T1.out.cell (i := k) (j := 3) hlt (by omega); simpa [tzq] using this
      have y4 : W1.cell? ⟨tb, k * 7 + 4, none⟩ = some (.int .u16 0) := by have := T1.out.cell (i := k) (j := 4) hlt (by omega); simpa [tzq] using this
      have y5 : W1.cell? ⟨tb, k * 7 + 5, none⟩ = some (.int .u8 0) := by have := T1.out.cell (i := k) (j := 5) hlt (by omega); simpa [tzq] using this
      have y6 : W1.cell? ⟨tb, k * 7 + 6, none⟩ = some (.int .u8 0) := by have := T1.out.cell (i := k) (j := 6) hlt (by omega); simpa [tzq] using this
      have u0 : W1.frozen? ⟨tb, k * 7, none⟩ = false := T1.out.frozen _
      have u1 : W1.frozen? ⟨tb, k * 7 + 1, none⟩ = false := T1.out.frozen _
      have u2 : W1.frozen? ⟨tb, k * 7 + 2, none⟩ = false := T1.out.frozen _
      have u3 : W1.frozen? ⟨tb, k * 7 + 3, none⟩ = false := T1.out.frozen _
      have u4 : W1.frozen? ⟨tb, k * 7 + 4, none⟩ = false := T1.out.frozen _
      have u5 : W1.frozen? ⟨tb, k * 7 + 5, none⟩ = false := T1.out.frozen _
      have u6 : W1.frozen? ⟨tb, k * 7 + 6, none⟩ = false := T1.out.frozen _
      have STEP := Lib.hid (show Tab (((((((W1.setCell ⟨tb, k * 7, none⟩ (.pointer none)).setCell ⟨tb, k * 7 + 1, none⟩ (.string tk)).setCell ⟨tb, k * 7 + 2, none⟩ (.int .i32 0)).setCell ⟨tb, k * 7 + 3, none⟩ (.int .u32 0)).setCell ⟨tb, k * 7 + 4, none⟩ (.int .u16 0)).setCell ⟨tb, k * 7 + 5, none⟩ (.int .u8 kk)).setCell ⟨tb, k * 7 + 6, none⟩ (.int .u8 0)) tb 47 7 n (tzq Q (k + 1)) from by rw [← HTK.out, ← HKK.out]; exact tzq_step T1.out hlt)
      have BST := Lib.hid (show Below w.heap.size w (((((((W1.setCell ⟨tb, k * 7, none⟩ (.pointer none)).setCell ⟨tb, k * 7 + 1, none⟩ (.string tk)).setCell ⟨tb, k * 7 + 2, none⟩ (.int .i32 0)).setCell ⟨tb, k * 7 + 3, none⟩ (.int .u32 0)).setCell ⟨tb, k * 7 + 4, none⟩ (.int .u16 0)).setCell ⟨tb, k * 7 + 5, none⟩ (.int .u8 kk)).setCell ⟨tb, k * 7 + 6, none⟩ (.int .u8 0)) from by
        have e := HTB.out.1
        subst e
        exact (((((((B1.out.setCell (Nat.le_succ _) _).setCell (Nat.le_succ _) _).setCell (Nat.le_succ _) _).setCell (Nat.le_succ _) _).setCell (Nat.le_succ _) _).setCell (Nat.le_succ _) _).setCell (Nat.le_succ _) _))
      have KST := Lib.hid (show Blk (((((((W1.setCell ⟨tb, k * 7, none⟩ (.pointer none)).setCell ⟨tb, k * 7 + 1, none⟩ (.string tk)).setCell ⟨tb, k * 7 + 2, none⟩ (.int .i32 0)).setCell ⟨tb, k * 7 + 3, none⟩ (.int .u32 0)).setCell ⟨tb, k * 7 + 4, none⟩ (.int .u16 0)).setCell ⟨tb, k * 7 + 5, none⟩ (.int .u8 kk)).setCell ⟨tb, k * 7 + 6, none⟩ (.int .u8 0)) gk 30 #[.int .i32 0, .int .i32 0] from by
        have e : ∀ (o : Nat), gk ≠ (⟨tb, o, none⟩ : Addr).block := fun o => by have := HTB.out; show gk ≠ tb; omega
        exact (((((((K1.out.far (e _) _).far (e _) _).far (e _) _).far (e _) _).far (e _) _).far (e _) _).far (e _) _))
      go_wp2_with fail
      go_roundw
      case rel => exact ⟨k + 1, by omega, by go_num, STEP, BST, KST⟩
      case measure => simp [intOf]; omega
    · obtain rfl : n = k := by omega
      have VV := Lib.hid (show Tab wr tb 47 7 n (tc (fun i => kq (Q i)) (fun i => tq (Q i)) (fun _ => 0) (fun _ => 0)) from TT.out.ext (fun i j hi _ => by unfold tzq; rw [if_pos hi]))
      clear TT
      obtain ⟨j0, hj, hj0, hj1, hj2⟩ := info_parts info54
      have hmk := fun (W : World) => run_make (P := Tryd.prog) W 26 54 j0 _ Tryd.underlying26 hj hj0 .i64 .i64 1 1 (by omega) (by omega) (by rw [hj2]; omega) (by omega)
      simp only [hj1] at hmk
      have PK := Lib.hid (show Blk (((wr.alloc (.cells #[.int .i32 l, .int .i32 13] 30)).alloc (.cells #[.string ⟨#[98, 111, 114, 100, 101, 114, 45, 114, 97, 100, 105, 117, 115]⟩, .slice (some ⟨tb, 0, none⟩) n n, .int .i32 l, .int .i32 13, .int .u16 66, .bool im] 40)).alloc (.cells (madeCells #[.nilIface, .int .i32 0] 2) 54)) wr.heap.size 30 #[.int .i32 l, .int .i32 13] ∧ Blk (((wr.alloc (.cells #[.int .i32 l, .int .i32 13] 30)).alloc (.cells #[.string ⟨#[98, 111, 114, 100, 101, 114, 45, 114, 97, 100, 105, 117, 115]⟩, .slice (some ⟨tb, 0, none⟩) n n, .int .i32 l, .int .i32 13, .int .u16 66, .bool im] 40)).alloc (.cells (madeCells #[.nilIface, .int .i32 0] 2) 54)) (wr.heap.size + 1) 40 #[.string ⟨#[98, 111, 114, 100, 101, 114, 45, 114, 97, 100, 105, 117, 115]⟩, .slice (some ⟨tb, 0, none⟩) n n, .int .i32 l, .int .i32 13, .int .u16 66, .bool im] ∧ Tab (((wr.alloc (.cells #[.int .i32 l, .int .i32 13] 30)).alloc (.cells #[.string ⟨#[98, 111, 114, 100, 101, 114, 45, 114, 97, 100, 105, 117, 115]⟩, .slice (some ⟨tb, 0, none⟩) n n, .int .i32 l, .int .i32 13, .int .u16 66, .bool im] 40)).alloc (.cells (madeCells #[.nilIface, .int .i32 0] 2) 54)) (wr.heap.size + 1 + 1) 54 2 1 (fun i j => #[Value.nilIface, .int .i32 0][j]!) ∧ Below wr.heap.size wr (((wr.alloc (.cells #[.int .i32 l, .int .i32 13] 30)).alloc (.cells #[.string ⟨#[98, 111, 114, 100, 101, 114, 45, 114, 97, 100, 105, 117, 115]⟩, .slice (some ⟨tb, 0, none⟩) n n, .int .i32 l, .int .i32 13, .int .u16 66, .bool im] 40)).alloc (.cells (madeCells #[.nilIface, .int .i32 0] 2) 54)) from
        ⟨((Blk.new wr 30 _).alloc _).alloc _, by simpa using (Blk.new (wr.alloc (.cells #[.int .i32 l, .int .i32 13] 30)) 40 #[.string ⟨#[98, 111, 114, 100, 101, 114, 45, 114, 97, 100, 105, 117, 115]⟩, .slice (some ⟨tb, 0, none⟩) n n, .int .i32 l, .int .i32 13, .int .u16 66, .bool im]).alloc _, by simpa using Tab.new ((wr.alloc (.cells #[.int .i32 l, .int .i32 13] 30)).alloc (.cells #[.string ⟨#[98, 111, 114, 100, 101, 114, 45, 114, 97, 100, 105, 117, 115]⟩, .slice (some ⟨tb, 0, none⟩) n n, .int .i32 l, .int .i32 13, .int .u16 66, .bool im] 40)) 54 #[.nilIface, .int .i32 0] 1 2 rfl (fun i j => #[Value.nilIface, .int .i32 0][j]!) (fun _ _ _ _ => rfl), (((Below.refl _ _).alloc (Nat.le_refl _) _).alloc (by simp) _).alloc (by simp; omega) _⟩)
      go_upto_region 10 with fail
      clear hmk
      have V3 := Lib.hid (VV.out.below PK.out.2.2.2 VV.out.lt)
      have G3 := Lib.hid (KK.out.below PK.out.2.2.2 KK.out.lt)
      have B3 := Lib.hid (BB.out.trans (PK.out.2.2.2.mono BB.out.size))
      have L3 := Lib.hid (show w.heap.size ≤ wr.heap.size ∧ gk < wr.heap.size ∧ tb < wr.heap.size from ⟨BB.out.size, KK.out.lt, VV.out.lt⟩)
      clear VV KK BB
      generalize ((wr.alloc (.cells #[.int .i32 l, .int .i32 13] 30)).alloc (.cells #[.string ⟨#[98, 111, 114, 100, 101, 114, 45, 114, 97, 100, 105, 117, 115]⟩, .slice (some ⟨tb, 0, none⟩) n n, .int .i32 l, .int .i32 13, .int .u16 66, .bool im] 40)).alloc (.cells (madeCells #[.nilIface, .int .i32 0] 2) 54) = W3 at *
      obtain ⟨kb, hkb⟩ : ∃ kb, wr.heap.size = kb := ⟨_, rfl⟩
      simp only [hkb] at PK L3 ⊢
      clear hkb
      have c0 : W3.cell? ⟨kb + 1 + 1, 0, none⟩ = some .nilIface := by have := PK.out.2.2.1.cell (i := 0) (j := 0) (by omega) (by omega); simpa using this
      have c1 : W3.cell? ⟨kb + 1 + 1, 1, none⟩ = some (.int .i32 0) := by have := PK.out.2.2.1.cell (i := 0) (j := 1) (by omega) (by omega); simpa using this
      have u0 : W3.frozen? ⟨kb + 1 + 1, 0, none⟩ = false := PK.out.2.2.1.frozen _
      have u1 : W3.frozen? ⟨kb + 1 + 1, 1, none⟩ = false := PK.out.2.2.1.frozen _
      have R4 := Lib.hid (show Tab ((W3.setCell ⟨kb + 1 + 1, 0, none⟩ (.iface 25 (.pointer (some ⟨kb + 1, 0, none⟩)))).setCell ⟨kb + 1 + 1, 1, none⟩ (.int .i32 l)) (kb + 1 + 1) 54 2 1 (rc (fun _ => some (kb + 1)) (fun _ => l)) from by
        have h1 := (PK.out.2.2.1.set (i := 0) (j := 0) (by omega) (by omega) (.iface 25 (.pointer (some ⟨kb + 1, 0, none⟩)))).set (i := 0) (j := 1) (by omega) (by omega) (.int .i32 l)
        refine h1.ext fun i j hi hj => ?_
        obtain rfl : i = 0 := by omega
        rcases (by omega : j = 0 ∨ j = 1) with rfl | rfl <;> simp [upd, rc, dv])
      go_upto_region 11 with fail
      clear c0 c1 u0 u1
      have D4 := Lib.hid (show Blk ((W3.setCell ⟨kb + 1 + 1, 0, none⟩ (.iface 25 (.pointer (some ⟨kb + 1, 0, none⟩)))).setCell ⟨kb + 1 + 1, 1, none⟩ (.int .i32 l)) (kb + 1) 40 #[.string ⟨#[98, 111, 114, 100, 101, 114, 45, 114, 97, 100, 105, 117, 115]⟩, .slice (some ⟨tb, 0, none⟩) n n, .int .i32 l, .int .i32 13, .int .u16 66, .bool im] from (PK.out.2.1.far (by show kb + 1 ≠ kb + 1 + 1; omega) _).far (by show kb + 1 ≠ kb + 1 + 1; omega) _)
      have K4 := Lib.hid (show Blk ((W3.setCell ⟨kb + 1 + 1, 0, none⟩ (.iface 25 (.pointer (some ⟨kb + 1, 0, none⟩)))).setCell ⟨kb + 1 + 1, 1, none⟩ (.int .i32 l)) kb 30 #[.int .i32 l, .int .i32 13] from (PK.out.1.far (by show kb ≠ kb + 1 + 1; omega) _).far (by show kb ≠ kb + 1 + 1; omega) _)
      have G4 := Lib.hid (show Blk ((W3.setCell ⟨kb + 1 + 1, 0, none⟩ (.iface 25 (.pointer (some ⟨kb + 1, 0, none⟩)))).setCell ⟨kb + 1 + 1, 1, none⟩ (.int .i32 l)) gk 30 #[.int .i32 0, .int .i32 0] from (G3.out.far (by show gk ≠ kb + 1 + 1; have := L3.out; omega) _).far (by show gk ≠ kb + 1 + 1; have := L3.out; omega) _)
      have V4 := Lib.hid (show Tab ((W3.setCell ⟨kb + 1 + 1, 0, none⟩ (.iface 25 (.pointer (some ⟨kb + 1, 0, none⟩)))).setCell ⟨kb + 1 + 1, 1, none⟩ (.int .i32 l)) tb 47 7 n (tc (fun i => kq (Q i)) (fun i => tq (Q i)) (fun _ => 0) (fun _ => 0)) from (V3.out.far (by show tb ≠ kb + 1 + 1; have := L3.out; omega) _).far (by show tb ≠ kb + 1 + 1; have := L3.out; omega) _)
      have B4 := Lib.hid (show Below w.heap.size w ((W3.setCell ⟨kb + 1 + 1, 0, none⟩ (.iface 25 (.pointer (some ⟨kb + 1, 0, none⟩)))).setCell ⟨kb + 1 + 1, 1, none⟩ (.int .i32 l)) from (B3.out.setCell (by show w.heap.size ≤ kb + 1 + 1; have := L3.out; omega) _).setCell (by show w.heap.size ≤ kb + 1 + 1; have := L3.out; omega) _)
      clear PK V3 G3 B3
      generalize (W3.setCell ⟨kb + 1 + 1, 0, none⟩ (.iface 25 (.pointer (some ⟨kb + 1, 0, none⟩)))).setCell ⟨kb + 1 + 1, 1, none⟩ (.int .i32 l) = W4 at *
      go_wp2_with fail
      refine (new15 _).mono ?_
      rintro e W5 ⟨g, rfl, ht, hb, hge⟩
      have EE := Lib.hid (show EV W5 g (kb + 1 + 1) (kb + 1) tb n Q l 13 im l from ⟨D4.out.below hb D4.out.lt, V4.out.below hb V4.out.lt, R4.out.below hb R4.out.lt, fun i hi => (HQ.out i hi).1, by have := D4.out.lt; omega, by have := V4.out.lt; omega, by have := R4.out.lt; omega⟩)
      have TT := Lib.hid ht
      have K5 := Lib.hid (show Blk W5 kb 30 #[.int .i32 l, .int .i32 13] ∧ Blk W5 gk 30 #[.int .i32 0, .int .i32 0] from ⟨K4.out.below hb K4.out.lt, G4.out.below hb G4.out.lt⟩)
      have NG := Lib.hid (show kb ≠ g ∧ gk ≠ g ∧ w.heap.size ≤ g from by
        have h1 := K4.out.lt
        have h2 := G4.out.lt
        have h3 := B4.out.size
        omega)
      have B5 := Lib.hid (B4.out.trans (hb.mono B4.out.size))
      clear D4 K4 G4 V4 R4 B4 ht hb hge
      go_wp2_with fail
      refine (mang19 (mang23 g (kb + 1 + 1) (kb + 1) tb n Q l 13 im mw l W5 TT.out EE.out hn 1 rfl) (fun e w' h => h.1)).mono ?_
      rintro e W6 ⟨rfl, hh⟩
      have HH := Lib.hid hh
      have K6 := Lib.hid (show Blk W6 kb 30 #[.int .i32 l, .int .i32 13] ∧ Blk W6 gk 30 #[.int .i32 0, .int .i32 0] ∧ Below w.heap.size w W6 from by
        have h1 := K5.out.1.lt
        have h2 := K5.out.2.lt
        have h3 := L3.out
        have h4 := NG.out
        rcases hh with ⟨_, hk⟩ | ⟨_, _, _, _, _, _, _, _, _, _, _, ho⟩
        · exact ⟨hk.blk K5.out.1 h1 h4.1, hk.blk K5.out.2 h2 h4.2.1, B5.out.trans (hk.below B5.out.size h4.2.2)⟩
        · exact ⟨(ho.block kb h1 h4.1 (by omega)).trans K5.out.1, (ho.block gk h2 h4.2.1 (by omega)).trans K5.out.2, B5.out.trans ⟨ho.os, ho.tape, ho.output, ho.size, fun k hk => ho.block k (by have := B5.out.size; omega) (by omega) (by omega)⟩⟩)
      clear hh K5 B5 TT
      have k0 : W6.cell? ⟨kb, 0, none⟩ = some (.int .i32 l) := K6.out.1.cell 0
      have k1 : W6.cell? ⟨kb, 1, none⟩ = some (.int .i32 13) := K6.out.1.cell 1
      have g0 : W6.cell? ⟨gk, 0, none⟩ = some (.int .i32 0) := K6.out.2.1.cell 0
      have g1 : W6.cell? ⟨gk, 1, none⟩ = some (.int .i32 0) := K6.out.2.1.cell 1
      have f0 : W6.frozen? ⟨gk, 0, none⟩ = false := K6.out.2.1.frozen _
      have f1 : W6.frozen? ⟨gk, 1, none⟩ = false := K6.out.2.1.frozen _
      have nk : ¬ kb = gk := by have := L3.out; omega
      have nk2 : ¬ gk = kb := fun h => nk h.symm
      go_wp2_with fail
      go_region
      have G7 := Lib.hid (show Blk (((W6.setCell ⟨gk, 0, none⟩ (.int .i32 l)).setCell ⟨gk, 1, none⟩ (.int .i32 13)).drew) gk 30 #[.int .i32 l, .int .i32 13] ∧ Kept W6.heap.size gk W6 (((W6.setCell ⟨gk, 0, none⟩ (.int .i32 l)).setCell ⟨gk, 1, none⟩ (.int .i32 13)).drew) from ⟨((K6.out.2.1.set_ 0 (.int .i32 l)).set_ 1 (.int .i32 13)).drew, (((Kept.refl _ _ _).setCell 0 _).setCell 1 _).drew⟩)
      have NE6 := Lib.hid (fun (S : Nat → Cn) (tg L : Nat) (h : GS S mw W6 tg L) => GS_ne h g0)
      generalize ((W6.setCell ⟨gk, 0, none⟩ (.int .i32 l)).setCell ⟨gk, 1, none⟩ (.int .i32 13)).drew = W7 at *
      clear k0 k1 g0 g1 f0 f1 nk nk2
      have z0 : W7.cell? ⟨gk, 0, none⟩ = some (.int .i32 l) := G7.out.1.cell 0
      have z1 : W7.cell? ⟨gk, 1, none⟩ = some (.int .i32 13) := G7.out.1.cell 1
      go_wp2_with fail
      refine bodyPost_ret (v := .tuple #[.pointer (some ⟨kb + 1, 0, none⟩), .slice (some ⟨kb + 1 + 1, 0, none⟩) 1 1, .agg #[.int .i32 l, .int .i32 13]]) (by simp [results, Tryd.results7, go_sem, z0, z1]; done) rfl ?_
      have b7 : Below w.heap.size w W7 := K6.out.2.2.trans (G7.out.2.below K6.out.2.2.size (by have := HTB.out; omega))
      have k7 := G7.out.2
      have l3 := L3.out
      refine ⟨kb + 1, kb + 1 + 1, tb, rfl, b7, ?_⟩
      have e5 := EE.out
      have ntb : tb ≠ gk := by have := HTB.out; omega
      rcases HH.out with ⟨na, hk⟩ | ⟨bs, es, ac, d', L, tg, cp, ht, hb, hg, hd, ho⟩
      · have e6 := e5.keep hk
        exact .inl ⟨na, k7.tab e6.hr e6.hr.lt (by omega), k7.blk e6.hd e6.hd.lt (by omega), k7.tab e6.hv e6.hv.lt ntb⟩
      · have ld := e5.hd.lt
        have lr := e5.hr.lt
        exact .inr ⟨bs, es, ac, d', L, tg, cp, k7.tab ht ht.lt (by omega), k7.blk hb hb.lt (by omega), GV.keep hg k7 (NE6.out _ _ _ hg), by omega, _, k7.blk (show Blk W6 (kb + 1) 40 _ from (ho.block (kb + 1) ld e5.n1 (by omega)).trans e5.hd) (by have := ho.size; omega) (by have := HTB.out; omega)⟩
end Go.Proofs.YtnolnlekdlfeaaaDoor.ZT
