/- Law 4, the walk from its start. Written by gen_boxsf.py. -/
import Derived.Test.YtioilpdjfplffaaSe
import Derived.Test.YtioilpdjfplffaaRi
import Derived.DataShut
namespace Go.Proofs.Ytioilpdjfplffaa.ZT
open Go.RowKit Go.Proofs.Ytioilpdjfplffaa.TB
set_option linter.unusedVariables false
set_option linter.unusedSimpArgs false
theorem mk4 (W : World) : (Instr.makeSlice 27 (.int .i64 4) (.int .i64 4)).run Try.prog W = .ok (.slice (some ⟨W.heap.size, 0, none⟩) 4 4) (W.alloc (.cells #[.nilIface, .int .i32 0, .nilIface, .int .i32 0, .nilIface, .int .i32 0, .nilIface, .int .i32 0] 48)) := by kernel_rfl
def QS (w0 : World) (pb g rg : Nat) (kt : ByteArray) (im : Bool) (key : Int) (k : Nat) (d : Nat → Nat) (L : Nat → Int) (P : Nat → Nat) (wr : World) : Prop :=
  Below w0.heap.size w0 wr ∧ Box wr g kt (fun _ => Sd0) true im key ∧ Tab wr rg 48 2 4 (rcp d L k) ∧ Tab wr pb 49 1 4 (fun i _ => .int .i64 (P i : Nat)) ∧ w0.heap.size ≤ pb ∧ pb < g ∧ g < rg
section
variable {w0 : World} {pb g rg k : Nat} {kt : ByteArray} {im : Bool} {key : Int} {d : Nat → Nat} {L : Nat → Int} {P : Nat → Nat} {wr : World}
theorem QS.step (h : QS w0 pb g rg kt im key k d L P wr) {w' : World} (hb : Below wr.heap.size wr w') : QS w0 pb g rg kt im key k d L P w' := by
  obtain ⟨h0, h1, h2, h3, h4⟩ := h
  exact ⟨h0.trans (hb.mono h0.size), Blk.below h1 hb h1.lt, h2.below hb h2.lt, h3.below hb h3.lt, h4⟩
theorem QS.put (h : QS w0 pb g rg kt im key k d L P wr) (hk : k < 4) (b : Nat) (l : Int) : QS w0 pb g rg kt im key (k + 1) (fun i => if i = k then b else d i) (fun i => if i = k then l else L i) P ((wr.setCell ⟨rg, k * 2, none⟩ (.iface 30 (.pointer (some ⟨b, 0, none⟩)))).setCell ⟨rg, k * 2 + 1, none⟩ (.int .i32 l)) := by
  obtain ⟨h0, h1, h2, h3, h4, h5, h6⟩ := h
  have e1 : rg ≠ g := by omega
  have e2 : rg ≠ pb := by omega
  refine ⟨(h0.setCell (by show w0.heap.size ≤ rg; omega) _).setCell (by show w0.heap.size ≤ rg; omega) _, Blk.far (Blk.far h1 e1.symm _) e1.symm _, ?_, (h3.far e2.symm _).far e2.symm _, h4, h5, h6⟩
  refine ((h2.set hk (j := 0) (by omega) (.iface 30 (.pointer (some ⟨b, 0, none⟩)))).set hk (j := 1) (by omega) (.int .i32 l)).ext fun i j hi hj => ?_
  by_cases e : i = k
  · subst e
    rcases (by omega : j = 0 ∨ j = 1) with rfl | rfl <;> simp [upd, rcp, rc, dv]
  · have e1 : (i < k + 1) = (i < k) := by simp; omega
    rcases (by omega : j = 0 ∨ j = 1) with rfl | rfl <;> simp [upd, rcp, rc, e, e1]
theorem QS.toNS (h : QS w0 pb g rg kt im key 4 d L P wr) : NS w0 pb g rg wr.heap.size kt im key d L P (fun _ => Sd0) (fun _ => 0) (wr.alloc (.cells #[.int .u8 0, .int .u8 0, .int .u8 0, .int .u8 0] 50)) := by
  have hh := h.step ((Below.refl _ _).alloc (Nat.le_refl _) (.cells #[.int .u8 0, .int .u8 0, .int .u8 0, .int .u8 0] 50))
  have hl := h.2.2.1.lt
  obtain ⟨h0, h1, h2, h3, h4, h5, h6⟩ := hh
  exact ⟨h0, h1, h2.ext (fun i j hi hj => by unfold rcp; rw [if_pos hi]), h3, ⟨_, Blk.new wr 50 _, rfl, fun i j hi hj => by
    obtain rfl : j = 0 := by omega
    rcases fourI hi with rfl | rfl | rfl | rfl <;> rfl⟩, h4, h5, h6, hl⟩
end
set_option maxRecDepth 1000000 in
set_option maxHeartbeats 8000000 in
theorem law4 (toks order : Int) (mw im : Bool) (w : World) (ho0 : 0 ≤ order) (ho1 : order < 256) :
    Calls Try.prog 4 #[.int .u16 toks, .int .u8 order, .bool mw, .bool im] w fun e w' => e = .returned (.bool true) ∧ Below w.heap.size w w' := by
  have hmk := fun (W : World) => mk4 W
  have PT := Lib.hid (fun (W : World) (P : Nat → Nat) => show Tab (W.alloc (.cells #[.int .i64 (P 0 : Nat), .int .i64 (P 1 : Nat), .int .i64 (P 2 : Nat), .int .i64 (P 3 : Nat)] 49)) W.heap.size 49 1 4 (fun i _ => .int .i64 (P i : Nat)) from ⟨_, Blk.new W 49 _, rfl, fun i j hi hj => by
    obtain rfl : j = 0 := by omega
    rcases fourI hi with rfl | rfl | rfl | rfl <;> rfl⟩)
  go_enter Try.func4, Try.ntmps4
  go_wp2_with fail
  refine (perm15 order _ ho0 ho1).mono ?_
  rintro e w1 ⟨P, rfl, hp, hb1⟩
  have HP := Lib.hid hp
  have B1 := Lib.hid (show Below w.heap.size w (w1.alloc (.cells #[.int .i64 (P 0 : Nat), .int .i64 (P 1 : Nat), .int .i64 (P 2 : Nat), .int .i64 (P 3 : Nat)] 49)) from hb1.alloc hb1.size _)
  have T1 := Lib.hid (PT.out w1 P)
  have hs1 := hb1.size
  clear hb1 PT hp
  go_wp2_with fail
  refine (newBox5 _ _ _ _ _).mono ?_
  rintro e w2 ⟨g, rfl, hx, hb2, hg⟩
  have Q0 := Lib.hid (fun (d : Nat → Nat) (L : Nat → Int) => show QS w w1.heap.size g w2.heap.size { data := #[109, 97, 114, 103, 105, 110] } im 189 0 d L P (w2.alloc (.cells #[.nilIface, .int .i32 0, .nilIface, .int .i32 0, .nilIface, .int .i32 0, .nilIface, .int .i32 0] 48)) from by
    have z := hb2.size
    simp only [World.size_alloc] at z hg
    exact ⟨(B1.out.trans (hb2.mono (by simp; omega))).alloc (by omega) _, hx.alloc _, ⟨_, Blk.new w2 48 _, rfl, fun i j hi hj => by
      unfold rcp
      rw [if_neg (by omega)]
      rcases fourI hi with rfl | rfl | rfl | rfl <;> rcases (by omega : j = 0 ∨ j = 1) with rfl | rfl <;> rfl⟩, (T1.out.below hb2 T1.out.lt).alloc _, hs1, by omega, hx.lt⟩)
  clear hx hb2 hg B1 T1
  go_upto_region 4 with fail
  clear hmk
  generalize w2.alloc (.cells #[.nilIface, .int .i32 0, .nilIface, .int .i32 0, .nilIface, .int .i32 0, .nilIface, .int .i32 0] 48) = W3 at *
  generalize w2.heap.size = rg at *
  generalize w1.heap.size = pb at *
  go_wp2_with fail
  go_loopw [12, 13] (fun i _ wr => ∃ (k : Nat) (d : Nat → Nat) (L : Nat → Int), k ≤ 4 ∧ i = .int .i64 k ∧ Hid (QS w pb g rg { data := #[109, 97, 114, 103, 105, 110] } im 189 k d L P wr)) (fun i _ _ => 4 - (intOf i).toNat)
  case atStart => exact ⟨0, (fun _ => 0), (fun _ => 0), by omega, rfl, Lib.hid (Q0.out _ _)⟩
  case round =>
    obtain ⟨k, d, L, hk, rfl, QJ⟩ := hrel
    clear Q0
    by_cases hlt : k < 4
    · have q1 : (0 : Int) ≤ (k : Int) := by omega
      have q2 : (k : Int) < 4 := by omega
      go_wp2_with fail
      refine (tok6 0 _ _).mono ?_
      rintro e w5 ⟨rfl, hb5⟩
      have Q5 := Lib.hid (QJ.out.step hb5)
      clear hb5 QJ
      generalize hl : (10 * ((k : Int) + 1)) = l at *
      clear hl
      have hbs := fun (W' : World) => bs1 (tx 0) l (kd 0) 0 W'
      have r0 : w5.cell? ⟨rg, k * 2, none⟩ = some (rcp d L k k 0) := Q5.out.2.2.1.cell (i := k) (j := 0) hlt (by omega)
      have r1 : w5.cell? ⟨rg, k * 2 + 1, none⟩ = some (rcp d L k k 1) := Q5.out.2.2.1.cell (i := k) (j := 1) hlt (by omega)
      have r2 : w5.frozen? ⟨rg, k * 2, none⟩ = false := Q5.out.2.2.1.frozen _
      have r3 : w5.frozen? ⟨rg, k * 2 + 1, none⟩ = false := Q5.out.2.2.1.frozen _
      have z1 : rg < w5.heap.size := Q5.out.2.2.1.lt
      have n1 : ¬ rg = w5.heap.size := by omega
      have n2 : ¬ w5.heap.size = rg := by omega
      have n3 : ¬ rg = w5.heap.size + 1 := by omega
      have n4 : ¬ w5.heap.size + 1 = rg := by omega
      go_wp2
      go_roundw
      case rel => exact ⟨k + 1, _, _, by omega, by go_num, Lib.hid (((Q5.out.put hlt (w5.heap.size + 1) l).step ((Below.refl _ _).alloc (Nat.le_refl _) _)).step ((Below.refl _ _).alloc (Nat.le_refl _) _))⟩
      case measure => simp [intOf]; omega
    · obtain rfl : k = 4 := by omega
      have NN := Lib.hid QJ.out.toNS
      clear QJ
      go_upto_region 9 with fail
      go_cut [14] from 39 to 50 (fun s_ wx => s_ = .pointer (some ⟨wr.heap.size, 0, none⟩) ∧ wx = wr.alloc (.cells #[.int .u8 0, .int .u8 0, .int .u8 0, .int .u8 0] 50))
      case first =>
        go_wp2_with fail
        go_meet
        exact ⟨rfl, rfl⟩
      case rest =>
        obtain ⟨rfl, rfl⟩ := hcut
        refine tailApply (by assumption) ?_
        exact sail10 mw im g rg pb _ toks order d L P w _ _ _ _ _ _ _ _ _ _ _ _ _ _ _ _ _ _ _ _ _ _ _ _ _ _ _ _ _ _ _ _ _ _ _ _ _ _ _ _ _ _ _ _ _ _ _ _ _ _ _ _ _ _ _ _ _ _ _ _ _ _ _ _ _ _ _ _ _ _ _ _ _ _ _ _ _ _ _ _ _ _ _ _ _ _ _ _ _ _ _ _ _ _ _ _ _ _ _ _ _ _ _ _ _ _ _ _ _ _ _ _ _ _ _ _ _ _ _ _ _ _ _ _ _ _ _ _ _ _ _ _ _ _ _ _ _ _ _ _ _ _ _ _ _ _ _ _ _ _ _ _ _ _ _ _ _ _ _ _ _ _ _ _ _ _ _ _ _ _ HP.out NN.out
theorem law4_all (toks order : Int) (mw im : Bool) (w : World) (w0 : (Lit.int .u16 toks).wf = true) (w1 : (Lit.int .u8 order).wf = true) :
    Calls Try.prog 4 #[.int .u16 toks, .int .u8 order, .bool mw, .bool im] w fun e w' => e = .returned (.bool true) ∧ Below w.heap.size w w' := by
  have h1 := (Lit.wf_int_iff .u8 order).1 w1
  rw [show IntKind.u8.min = 0 from rfl, show IntKind.u8.max = 255 from rfl] at h1
  exact law4 toks order mw im w (by omega) (by omega)
end Go.Proofs.Ytioilpdjfplffaa.ZT
