/- FnRemoveColorInterpolationIgnoresCase: the tokens are built. Printed by gen_kc.py. -/
import Derived.Test.YtbdmbknehfjoaaaDoorKb
namespace Go.Proofs.YtbdmbknehfjoaaaDoor.ZT
open Go.RowKit Go.Proofs.YtbdmbknehfjoaaaDoor.TB
set_option linter.unusedVariables false
def tz (zk zw : Nat → Int) (Tx : Nat → ByteArray) (k : Nat) : Nat → Nat → Value := fun i j => if i < k then tc (fun i => kO (zk i)) Tx (fun i => wO (zw i)) (fun _ => 0) i j else #[.pointer none, .string ⟨#[]⟩, .int .i32 0, .int .u32 0, .int .u16 0, .int .u8 0, .int .u8 0][j]!
theorem tz_step {w : World} {g n k : Nat} {zk zw : Nat → Int} {Tx : Nat → ByteArray} (h : Tab w g 42 7 n (tz zk zw Tx k)) (hk : k < n) : Tab (((((((w.setCell ⟨g, k * 7, none⟩ (.pointer none)).setCell ⟨g, k * 7 + 1, none⟩ (.string (Tx k))).setCell ⟨g, k * 7 + 2, none⟩ (.int .i32 0)).setCell ⟨g, k * 7 + 3, none⟩ (.int .u32 0)).setCell ⟨g, k * 7 + 4, none⟩ (.int .u16 0)).setCell ⟨g, k * 7 + 5, none⟩ (.int .u8 (kO (zk k)))).setCell ⟨g, k * 7 + 6, none⟩ (.int .u8 (wO (zw k)))) g 42 7 n (tz zk zw Tx (k + 1)) := by
  have h0 := h.set hk (j := 0) (by omega) (.pointer none)
  have h1 := h0.set hk (j := 1) (by omega) (.string (Tx k))
  have h2 := h1.set hk (j := 2) (by omega) (.int .i32 0)
  have h3 := h2.set hk (j := 3) (by omega) (.int .u32 0)
  have h4 := h3.set hk (j := 4) (by omega) (.int .u16 0)
  have h5 := h4.set hk (j := 5) (by omega) (.int .u8 (kO (zk k)))
  have h6 := h5.set hk (j := 6) (by omega) (.int .u8 (wO (zw k)))
  rw [Nat.add_zero] at h6
  refine h6.ext fun i j hi hj => ?_
  by_cases e : i = k
  · subst e
    rcases seven hj with rfl | rfl | rfl | rfl | rfl | rfl | rfl <;> simp [upd, tz, tc]
  · have e1 : (i < k + 1) = (i < k) := by simp; omega
    simp [upd, tz, e, e1]
def BuildP (n : Nat) (K : Nat → Int) (T : Nat → ByteArray) (Wf : Nat → Int) (w : World) (e : Ending) (w' : World) : Prop :=
  ∃ g, e = .returned (.slice (some ⟨g, 0, none⟩) n n) ∧ Tab w' g 42 7 n (tc K T Wf (fun _ => 0)) ∧ Below w.heap.size w w' ∧ w.heap.size ≤ g
theorem info42 : (Tryd.prog.info? 42).map (fun i => (i.zero, i.size, i.bytes)) = some (some (.agg #[.pointer none, .string ⟨#[]⟩, .int .i32 0, .int .u32 0, .int .u16 0, .int .u8 0, .int .u8 0]), 7, 40) := by kernel_rfl
def upT (u : Bool) (T : Nat → ByteArray) : Nat → ByteArray := fun i => if u = true then upS (T i) else T i
set_option maxRecDepth 100000 in
set_option maxHeartbeats 4000000 in
theorem build11 (A1 A2 A3 : Option Addr) (n1 n2 n3 c1 c2 c3 n : Nat) (zk zw : Nat → Int) (T : Nat → ByteArray) (u : Bool) (w : World) (r1 : BR w A1 n1 zk) (r2 : SR w A2 n2 T) (r3 : BR w A3 n3 zw) (h1 : n ≤ n1) (h2 : n ≤ n2) (h3 : n ≤ n3) (hn : n ≤ 65536)
    (hk : ∀ i, i < n → 0 ≤ zk i ∧ zk i ≤ 255) (hw : ∀ i, i < n → 0 ≤ zw i ∧ zw i ≤ 255) (hT : ∀ i, i < n → (T i).size ≤ 1048576) :
    Calls Tryd.prog 11 #[.slice A1 n1 c1, .slice A2 n2 c2, .slice A3 n3 c3, .int .i64 n, .bool u] w (BuildP n (fun i => kO (zk i)) (upT u T) (fun i => wO (zw i)) w) := by
  obtain ⟨i0, hi, hz0, hz1, hz2⟩ := info_parts info42
  have hmk := fun (W : World) => run_make (P := Tryd.prog) W 30 42 i0 _ Tryd.underlying30 hi hz0 .i64 .i64 n n (by omega) (by omega) (by rw [hz2]; omega) (by omega)
  simp only [hz1, Int.toNat_natCast] at hmk
  have R1 := Lib.hid r1
  have R2 := Lib.hid r2
  have R3 := Lib.hid r3
  have HK := Lib.hid hk
  have HW := Lib.hid hw
  have HT := Lib.hid hT
  clear r1 r2 r3 hk hw hT
  have T0 := Lib.hid (Tab.new w 42 #[.pointer none, .string ⟨#[]⟩, .int .i32 0, .int .u32 0, .int .u16 0, .int .u8 0, .int .u8 0] n 7 rfl (tz zk zw (upT u T) 0) (fun i j _ hj => by unfold tz; simp))
  have B0 := Lib.hid (show Below w.heap.size w (w.alloc (.cells (madeCells #[.pointer none, .string ⟨#[]⟩, .int .i32 0, .int .u32 0, .int .u16 0, .int .u8 0, .int .u8 0] (n * 7)) 42)) from (Below.refl _ _).alloc (Nat.le_refl _) _)
  obtain ⟨Tx, HTX⟩ : ∃ Tx, Hid (upT u T = Tx) := ⟨_, Lib.hid rfl⟩
  rw [HTX.out] at T0 ⊢
  go_enter Tryd.func11, Tryd.ntmps11
  go_wp2
  generalize w.alloc (.cells (madeCells #[.pointer none, .string ⟨#[]⟩, .int .i32 0, .int .u32 0, .int .u16 0, .int .u8 0, .int .u8 0] (n * 7)) 42) = W0 at *
  clear hmk
  obtain ⟨g, hg⟩ : ∃ g, w.heap.size = g := ⟨_, rfl⟩
  have TZ := Lib.hid (show Tab W0 g 42 7 n (tz zk zw Tx 0) from hg ▸ T0.out)
  have HG := Lib.hid hg
  simp only [hg]
  clear T0 hg
  go_loopw [12] (fun i wr => ∃ k : Nat, k ≤ n ∧ i = .int .i64 k ∧ Hid (Tab wr g 42 7 n (tz zk zw Tx k)) ∧ Hid (Below w.heap.size w wr)) (fun i _ => n - (intOf i).toNat)
  case atStart => exact ⟨0, Nat.zero_le _, rfl, TZ, B0⟩
  case round =>
    obtain ⟨k, hkn, rfl, TT, BB⟩ := hrel
    clear TZ B0
    by_cases hlt : k < n
    · obtain ⟨b1, o1, e1, hb1, hc1⟩ := R1.out (by omega)
      obtain ⟨b2, o2, e2, hb2, hc2⟩ := R2.out (by omega)
      obtain ⟨b3, o3, e3, hb3, hc3⟩ := R3.out (by omega)
      have X1 := Lib.hid (And.intro hb1 (hc1 k (by omega)))
      have X3 := Lib.hid (And.intro hb3 (hc3 k (by omega)))
      have z2 : wr.cell? ⟨b2, o2 + k, none⟩ = some (.string (T k)) := by rw [BB.out.cell hb2]; exact hc2 k (by omega)
      subst e1 e2 e3
      clear hc1 hc2 hc3 hb1 hb2 hb3
      have q1 : (0 : Int) ≤ (k : Int) := by omega
      have q2 : (k : Int) < (n : Int) := by omega
      have q3 : (k : Int) < (n1 : Int) := by omega
      have q4 : (k : Int) < (n2 : Int) := by omega
      have q5 : (k : Int) < (n3 : Int) := by omega
      cases u
      case' false =>
        have HX := Lib.hid (show Tx k = T k from by rw [← HTX.out]; rfl)
        obtain ⟨t, ht⟩ : ∃ t, T k = t := ⟨_, rfl⟩
        rw [ht] at z2 HX
        clear ht
        go_upto_region 8 with fail
        obtain ⟨W1, hW1⟩ : ∃ W1, wr = W1 := ⟨_, rfl⟩
        rw [hW1] at TT BB ⊢
        clear hW1 z2
      case' true =>
        have HX := Lib.hid (show Tx k = upS (T k) from by rw [← HTX.out]; rfl)
        obtain ⟨t, ht⟩ : ∃ t, upS (T k) = t := ⟨_, rfl⟩
        rw [ht] at HX
        have UP := Lib.hid (show ∀ W : World, Calls Tryd.prog 12 #[.string (T k)] W fun e w' => e = .returned (.string t) ∧ Below W.heap.size W w' from fun W => ht ▸ upper12 (T k) W (HT.out k hlt))
        clear ht
        go_wp2_with fail
        refine (UP.out _).mono ?_
        rintro e W1 ⟨rfl, hbu⟩
        have T2 := Lib.hid (TT.out.below hbu TT.out.lt)
        have B2 := Lib.hid (BB.out.trans (hbu.mono BB.out.size))
        clear hbu TT BB UP z2
        have TT := T2
        have BB := B2
        clear T2 B2
        go_upto_region 8 with fail
      all_goals
        obtain ⟨ck, hck⟩ : ∃ ck, zk k = ck := ⟨_, rfl⟩
        obtain ⟨cw, hcw⟩ : ∃ cw, zw k = cw := ⟨_, rfl⟩
        have KB := Lib.hid (show 0 ≤ ck ∧ ck ≤ 255 from hck ▸ HK.out k hlt)
        have WB := Lib.hid (show 0 ≤ cw ∧ cw ≤ 255 from hcw ▸ HW.out k hlt)
        have x1 : W1.cell? ⟨b1, o1 + k, none⟩ = some (.int .u8 ck) := by rw [BB.out.cell X1.out.1, ← hck]; exact X1.out.2
        have x3 : W1.cell? ⟨b3, o3 + k, none⟩ = some (.int .u8 cw) := by rw [BB.out.cell X3.out.1, ← hcw]; exact X3.out.2
        have hg1 : b1 ≠ g := by have := X1.out.1; have := HG.out; omega
        have hg3 : b3 ≠ g := by have := X3.out.1; have := HG.out; omega
        have hg2 : ¬ g = b1 := fun h => hg1 h.symm
        have hg4 : ¬ g = b3 := fun h => hg3 h.symm
        have y0 : W1.cell? ⟨g, k * 7, none⟩ = some (.pointer none) := by have := TT.out.cell (i := k) (j := 0) hlt (by omega); simpa [tz] using this
        have y1 : W1.cell? ⟨g, k * 7 + 1, none⟩ = some (.string ⟨#[]⟩) := by have := TT.out.cell (i := k) (j := 1) hlt (by omega); simpa [tz] using this
        have y2 : W1.cell? ⟨g, k * 7 + 2, none⟩ = some (.int .i32 0) := by have := TT.out.cell (i := k) (j := 2) hlt (by omega); simpa [tz] using this
        have y3 : W1.cell? ⟨g, k * 7 + 3, none⟩ = some (.int .u32 0) := by have := TT.out.cell (i := k) (j := 3) hlt (by omega); simpa [tz] using this
        have y4 : W1.cell? ⟨g, k * 7 + 4, none⟩ = some (.int .u16 0) := by have := TT.out.cell (i := k) (j := 4) hlt (by omega); simpa [tz] using this
        have y5 : W1.cell? ⟨g, k * 7 + 5, none⟩ = some (.int .u8 0) := by have := TT.out.cell (i := k) (j := 5) hlt (by omega); simpa [tz] using this
        have y6 : W1.cell? ⟨g, k * 7 + 6, none⟩ = some (.int .u8 0) := by have := TT.out.cell (i := k) (j := 6) hlt (by omega); simpa [tz] using this
        have u0 : W1.frozen? ⟨g, k * 7, none⟩ = false := TT.out.frozen _
        have u1 : W1.frozen? ⟨g, k * 7 + 1, none⟩ = false := TT.out.frozen _
        have u2 : W1.frozen? ⟨g, k * 7 + 2, none⟩ = false := TT.out.frozen _
        have u3 : W1.frozen? ⟨g, k * 7 + 3, none⟩ = false := TT.out.frozen _
        have u4 : W1.frozen? ⟨g, k * 7 + 4, none⟩ = false := TT.out.frozen _
        have u5 : W1.frozen? ⟨g, k * 7 + 5, none⟩ = false := TT.out.frozen _
        have u6 : W1.frozen? ⟨g, k * 7 + 6, none⟩ = false := TT.out.frozen _
        have STEP := Lib.hid (show Tab (((((((W1.setCell ⟨g, k * 7, none⟩ (.pointer none)).setCell ⟨g, k * 7 + 1, none⟩ (.string t)).setCell ⟨g, k * 7 + 2, none⟩ (.int .i32 0)).setCell ⟨g, k * 7 + 3, none⟩ (.int .u32 0)).setCell ⟨g, k * 7 + 4, none⟩ (.int .u16 0)).setCell ⟨g, k * 7 + 5, none⟩ (.int .u8 (kO ck))).setCell ⟨g, k * 7 + 6, none⟩ (.int .u8 (wO cw))) g 42 7 n (tz zk zw Tx (k + 1)) from by rw [← hck, ← hcw, ← HX.out]; exact tz_step TT.out hlt)
        have BST := Lib.hid (show Below w.heap.size w (((((((W1.setCell ⟨g, k * 7, none⟩ (.pointer none)).setCell ⟨g, k * 7 + 1, none⟩ (.string t)).setCell ⟨g, k * 7 + 2, none⟩ (.int .i32 0)).setCell ⟨g, k * 7 + 3, none⟩ (.int .u32 0)).setCell ⟨g, k * 7 + 4, none⟩ (.int .u16 0)).setCell ⟨g, k * 7 + 5, none⟩ (.int .u8 (kO ck))).setCell ⟨g, k * 7 + 6, none⟩ (.int .u8 (wO cw))) from by
          have e := HG.out
          subst e
          exact ((((((BB.out.setCell (Nat.le_refl _) _).setCell (Nat.le_refl _) _).setCell (Nat.le_refl _) _).setCell (Nat.le_refl _) _).setCell (Nat.le_refl _) _).setCell (Nat.le_refl _) _).setCell (Nat.le_refl _) _)
        clear hck hcw
        go_region_with (first
          | (go_at_call 14; refine (kind14 ck _ KB.out.1 KB.out.2).mono ?_; rintro e_ w9 ⟨rfl, rfl⟩)
          | (go_at_call 15; refine (ws15 cw _ WB.out.1 WB.out.2).mono ?_; rintro e_ w9 ⟨rfl, rfl⟩))
        all_goals
          go_wp2_with fail
          go_roundw
          case rel => exact ⟨k + 1, by omega, by go_num, Lib.hid (STEP.out.drew), Lib.hid (BST.out.drew)⟩
          case measure => simp [intOf]; omega
    · obtain rfl : k = n := by omega
      go_wp2
      go_ret
      exact ⟨g, rfl, TT.out.ext (fun i j hi _ => by unfold tz; rw [if_pos hi]), BB.out, Nat.le_of_eq HG.out⟩
end Go.Proofs.YtbdmbknehfjoaaaDoor.ZT
