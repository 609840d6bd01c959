/- zzNotOf and FnLowerMediaRangeStrictIsNegatedOpposite. -/
import Derived.Test.YtpbdfdmocaojgaaMc
import Derived.DataShut
namespace Go.Proofs.Ytpbdfdmocaojgaa.MA
open Go.RowKit Go.Proofs.Ytpbdfdmocaojgaa.TB
set_option linter.unusedVariables false
def AsN (st : Int) (g : Nat) (w : World) (e : Ending) (w' : World) : Prop := e = .returned (.tuple #[.agg #[.int .i32 st, .iface 39 (.pointer (some ⟨g, 0, none⟩))], .bool true]) ∧ Below w.heap.size w w'
set_option maxRecDepth 100000 in
set_option maxHeartbeats 2000000 in
theorem asNot (st : Int) (g g' : Nat) (w : World) (h : Blk w g' 64 #[.int .i32 st, .iface 39 (.pointer (some ⟨g, 0, none⟩))]) :
    Calls Try.prog 19 #[.agg #[.int .i32 st, .iface 62 (.pointer (some ⟨g', 0, none⟩))]] w (AsN st g w) := by
  have c0 := h.cell 0
  have c1 := h.cell 1
  have hl := h.lt
  simp only [List.getElem?_toArray, List.getElem?_cons_zero, List.getElem?_cons_succ] at c0 c1
  clear h
  have TA := @ta62
  go_enter Try.func19, Try.ntmps19
  go_wp2
  refine bodyPost_ret (v := .tuple #[.agg #[.int .i32 st, .iface 39 (.pointer (some ⟨g, 0, none⟩))], .bool true]) (by simp [results, Try.results19, go_sem]) rfl ⟨rfl, ?_⟩
  exact ((Below.refl _ _).alloc (Nat.le_refl _) _).alloc (by simp) _
set_option maxRecDepth 100000 in
set_option maxHeartbeats 2000000 in
theorem notOf (st : Int) (g g' gl : Nat) (nm : ByteArray) (A : Option Addr) (n c : Nat) (K : Nat → Int) (T : Nat → ByteArray) (W : Nat → Int) (w : World) (r : TR w A n (tc K T W)) (hA : A = none → n = 0) (hn : n ≤ 131072)
    (h1 : Blk w g' 64 #[.int .i32 st, .iface 39 (.pointer (some ⟨g, 0, none⟩))]) (h2 : Blk w g 45 #[.string nm, .slice A n c]) (h3 : Blk w gl 45 #[.string nm, .slice A n c]) :
    Calls Try.prog 9 #[.agg #[.int .i32 st, .iface 62 (.pointer (some ⟨g', 0, none⟩))], .agg #[.int .i32 st, .iface 39 (.pointer (some ⟨gl, 0, none⟩))]] w (TrueB w) := by
  have B0 := Lib.hid (show Below w.heap.size w ((w.alloc (.cells #[.int .i32 st, .iface 62 (.pointer (some ⟨g', 0, none⟩))] 32)).alloc (.cells #[.int .i32 st, .iface 39 (.pointer (some ⟨gl, 0, none⟩))] 32)) from ((Below.refl _ _).alloc (Nat.le_refl _) _).alloc (by simp) _)
  have R := Lib.hid r
  have HA := Lib.hid hA
  have H1 := Lib.hid h1
  have H2 := Lib.hid h2
  have H3 := Lib.hid h3
  have d0 : ((w.alloc (.cells #[.int .i32 st, .iface 62 (.pointer (some ⟨g', 0, none⟩))] 32)).alloc (.cells #[.int .i32 st, .iface 39 (.pointer (some ⟨gl, 0, none⟩))] 32)).cell? ⟨w.heap.size, 0, none⟩ = some (.int .i32 st) := by simp [go_sem]
  have d1 : ((w.alloc (.cells #[.int .i32 st, .iface 62 (.pointer (some ⟨g', 0, none⟩))] 32)).alloc (.cells #[.int .i32 st, .iface 39 (.pointer (some ⟨gl, 0, none⟩))] 32)).cell? ⟨w.heap.size, 1, none⟩ = some (.iface 62 (.pointer (some ⟨g', 0, none⟩))) := by simp [go_sem]
  have e0 : ((w.alloc (.cells #[.int .i32 st, .iface 62 (.pointer (some ⟨g', 0, none⟩))] 32)).alloc (.cells #[.int .i32 st, .iface 39 (.pointer (some ⟨gl, 0, none⟩))] 32)).cell? ⟨w.heap.size + 1, 0, none⟩ = some (.int .i32 st) := by simp [go_sem]
  have e1 : ((w.alloc (.cells #[.int .i32 st, .iface 62 (.pointer (some ⟨g', 0, none⟩))] 32)).alloc (.cells #[.int .i32 st, .iface 39 (.pointer (some ⟨gl, 0, none⟩))] 32)).cell? ⟨w.heap.size + 1, 1, none⟩ = some (.iface 39 (.pointer (some ⟨gl, 0, none⟩))) := by simp [go_sem]
  have hsz : ((w.alloc (.cells #[.int .i32 st, .iface 62 (.pointer (some ⟨g', 0, none⟩))] 32)).alloc (.cells #[.int .i32 st, .iface 39 (.pointer (some ⟨gl, 0, none⟩))] 32)).heap.size = w.heap.size + 1 + 1 := by simp
  have HSZ := Lib.hid hsz
  clear r hA h1 h2 h3 hsz
  go_enter Try.func9, Try.ntmps9
  go_upto_region 3 with (fail)
  generalize (w.alloc (.cells #[.int .i32 st, .iface 62 (.pointer (some ⟨g', 0, none⟩))] 32)).alloc (.cells #[.int .i32 st, .iface 39 (.pointer (some ⟨gl, 0, none⟩))] 32) = W0 at *
  go_wp2_with fail
  refine (asNot st g g' W0 (H1.out.below B0.out H1.out.lt)).mono ?_
  rintro e w1 ⟨rfl, hb1⟩
  have B1 := Lib.hid (B0.out.trans (hb1.mono B0.out.size))
  have x0 : w1.cell? ⟨w.heap.size + 1, 0, none⟩ = some (.int .i32 st) := by rw [hb1.cell (by rw [HSZ.out]; show w.heap.size + 1 < _; omega)]; exact e0
  have x1 : w1.cell? ⟨w.heap.size + 1, 1, none⟩ = some (.iface 39 (.pointer (some ⟨gl, 0, none⟩))) := by rw [hb1.cell (by rw [HSZ.out]; show w.heap.size + 1 < _; omega)]; exact e1
  have hz1 : w.heap.size + 1 < w1.heap.size := by have := hb1.size; rw [HSZ.out] at this; omega
  clear hb1 d0 d1 e0 e1 HSZ B0
  have B2 := Lib.hid (B1.out.alloc B1.out.size (.cells #[.int .i32 st, .iface 39 (.pointer (some ⟨g, 0, none⟩))] 32))
  have f0 : (w1.alloc (.cells #[.int .i32 st, .iface 39 (.pointer (some ⟨g, 0, none⟩))] 32)).cell? ⟨w1.heap.size, 0, none⟩ = some (.int .i32 st) := by simp [go_sem]
  have f1 : (w1.alloc (.cells #[.int .i32 st, .iface 39 (.pointer (some ⟨g, 0, none⟩))] 32)).cell? ⟨w1.heap.size, 1, none⟩ = some (.iface 39 (.pointer (some ⟨g, 0, none⟩))) := by simp [go_sem]
  have bb := (Below.refl w1.heap.size w1).alloc (Nat.le_refl _) (.cells #[.int .i32 st, .iface 39 (.pointer (some ⟨g, 0, none⟩))] 32)
  have y0 : (w1.alloc (.cells #[.int .i32 st, .iface 39 (.pointer (some ⟨g, 0, none⟩))] 32)).cell? ⟨w.heap.size + 1, 0, none⟩ = some (.int .i32 st) := by rw [bb.cell hz1]; exact x0
  have y1 : (w1.alloc (.cells #[.int .i32 st, .iface 39 (.pointer (some ⟨g, 0, none⟩))] 32)).cell? ⟨w.heap.size + 1, 1, none⟩ = some (.iface 39 (.pointer (some ⟨gl, 0, none⟩))) := by rw [bb.cell hz1]; exact x1
  have hz2 : w.heap.size + 1 < (w1.alloc (.cells #[.int .i32 st, .iface 39 (.pointer (some ⟨g, 0, none⟩))] 32)).heap.size := by simp; omega
  go_upto_region 6 with (fail)
  clear bb x0 x1 B1
  generalize w1.alloc (.cells #[.int .i32 st, .iface 39 (.pointer (some ⟨g, 0, none⟩))] 32) = W1 at *
  go_wp2_with fail
  refine (asPlain st g nm A n c W1 (H2.out.below B2.out H2.out.lt)).mono ?_
  rintro e w2 ⟨rfl, hb2⟩
  have B3 := Lib.hid (B2.out.trans (hb2.mono B2.out.size))
  have z0 : w2.cell? ⟨w.heap.size + 1, 0, none⟩ = some (.int .i32 st) := by rw [hb2.cell hz2]; exact y0
  have z1 : w2.cell? ⟨w.heap.size + 1, 1, none⟩ = some (.iface 39 (.pointer (some ⟨gl, 0, none⟩))) := by rw [hb2.cell hz2]; exact y1
  clear hb2 y0 y1 f0 f1 B2
  go_wp2_with fail
  refine (asPlain st gl nm A n c w2 (H3.out.below B3.out H3.out.lt)).mono ?_
  rintro e w3 ⟨rfl, hb3⟩
  have B4 := Lib.hid (B3.out.trans (hb3.mono B3.out.size))
  clear hb3 z0 z1 B3
  go_wp2_with fail
  refine (same A n c K T W w3 (R.out.below B4.out) HA.out hn).mono ?_
  rintro e w4 ⟨rfl, hb4⟩
  have B5 := Lib.hid (B4.out.trans (hb4.mono B4.out.size))
  clear hb4
  go_wp2_with fail
  go_ret
  exact ⟨rfl, B5.out⟩
theorem put2 {w1 : World} {B q : Nat} {w : World} {x y : Value} (h : Below B w w1) (hq : B ≤ q) : Below B w ((w1.setCell ⟨q, 0, none⟩ x).setCell ⟨q, 1, none⟩ y) := (h.setCell hq _).setCell hq _
set_option maxRecDepth 100000 in
set_option maxHeartbeats 1000000 in
theorem zz2 (st : Int) (nm : ByteArray) (A : Option Addr) (n c : Nat) (w : World) (hn : nm.size ≤ 1048576) :
    Calls Try.prog 8 #[.agg #[.int .i32 st], .string nm, .int .u8 2, .slice A n c] w (NotP st (minS ++ nm) (.slice A n c) w) := by
  have B0 := Lib.hid (show Below w.heap.size w ((w.alloc (.cells #[.int .i32 st] 28)).alloc (.cells #[.int .i32 0, .nilIface] 32)) from ((Below.refl _ _).alloc (Nat.le_refl _) _).alloc (by simp) _)
  have BN := Lib.hid (show Blk ((w.alloc (.cells #[.int .i32 st] 28)).alloc (.cells #[.int .i32 0, .nilIface] 32)) (w.heap.size + 1) 32 #[.int .i32 0, .nilIface] from Blk.new' (by simp))
  have k4 : ((w.alloc (.cells #[.int .i32 st] 28)).alloc (.cells #[.int .i32 0, .nilIface] 32)).cell? ⟨w.heap.size, 0, none⟩ = some (.int .i32 st) := by simp [go_sem]
  have hsz := Lib.hid (show ((w.alloc (.cells #[.int .i32 st] 28)).alloc (.cells #[.int .i32 0, .nilIface] 32)).heap.size = w.heap.size + 1 + 1 by simp)
  go_enter Try.func8, Try.ntmps8
  go_upto_region 1 with (fail)
  generalize (w.alloc (.cells #[.int .i32 st] 28)).alloc (.cells #[.int .i32 0, .nilIface] 32) = W0 at *
  go_wp2_with fail
  refine (low2 st nm A n c W0 hn).mono ?_
  rintro e w1 ⟨g, g', rfl, h1, h2, hb⟩
  have BN1 := BN.out.below hb BN.out.lt
  have j0 := BN1.cell 0
  have j1 := BN1.cell 1
  simp only [List.getElem?_toArray, List.getElem?_cons_zero, List.getElem?_cons_succ] at j0 j1
  have f0 := BN1.frozen 0
  have f1 := BN1.frozen 1
  have HB := Lib.hid (B0.out.trans (hb.mono B0.out.size))
  have HH1 := Lib.hid h1
  have hg1 : g' ≠ w.heap.size + 1 := by rintro rfl; have := BN1.symm.trans h1; simp at this
  have HH2 := Lib.hid h2
  have hg2 : g ≠ w.heap.size + 1 := by rintro rfl; have := BN1.symm.trans h2; simp at this
  clear hb h1 BN1 h2
  go_wp2_with fail
  refine bodyPost_ret (v := .agg #[.int .i32 st, .iface 62 (.pointer (some ⟨g', 0, none⟩))]) (by simp [results, Try.results8, go_sem, j0, j1]) rfl ?_
  exact ⟨g, g', rfl, (HH1.out.far hg1 _).far hg1 _, (HH2.out.far hg2 _).far hg2 _, put2 HB.out (by omega)⟩
set_option maxRecDepth 100000 in
set_option maxHeartbeats 1000000 in
theorem zz5 (st : Int) (nm : ByteArray) (A : Option Addr) (n c : Nat) (w : World) (hn : nm.size ≤ 1048576) :
    Calls Try.prog 8 #[.agg #[.int .i32 st], .string nm, .int .u8 5, .slice A n c] w (PlainP st (minS ++ nm) (.slice A n c) w) := by
  have B0 := Lib.hid (show Below w.heap.size w ((w.alloc (.cells #[.int .i32 st] 28)).alloc (.cells #[.int .i32 0, .nilIface] 32)) from ((Below.refl _ _).alloc (Nat.le_refl _) _).alloc (by simp) _)
  have BN := Lib.hid (show Blk ((w.alloc (.cells #[.int .i32 st] 28)).alloc (.cells #[.int .i32 0, .nilIface] 32)) (w.heap.size + 1) 32 #[.int .i32 0, .nilIface] from Blk.new' (by simp))
  have k4 : ((w.alloc (.cells #[.int .i32 st] 28)).alloc (.cells #[.int .i32 0, .nilIface] 32)).cell? ⟨w.heap.size, 0, none⟩ = some (.int .i32 st) := by simp [go_sem]
  have hsz := Lib.hid (show ((w.alloc (.cells #[.int .i32 st] 28)).alloc (.cells #[.int .i32 0, .nilIface] 32)).heap.size = w.heap.size + 1 + 1 by simp)
  go_enter Try.func8, Try.ntmps8
  go_upto_region 1 with (fail)
  generalize (w.alloc (.cells #[.int .i32 st] 28)).alloc (.cells #[.int .i32 0, .nilIface] 32) = W0 at *
  go_wp2_with fail
  refine (low5 st nm A n c W0 hn).mono ?_
  rintro e w1 ⟨g, rfl, h1, hb⟩
  have BN1 := BN.out.below hb BN.out.lt
  have j0 := BN1.cell 0
  have j1 := BN1.cell 1
  simp only [List.getElem?_toArray, List.getElem?_cons_zero, List.getElem?_cons_succ] at j0 j1
  have f0 := BN1.frozen 0
  have f1 := BN1.frozen 1
  have HB := Lib.hid (B0.out.trans (hb.mono B0.out.size))
  have HH1 := Lib.hid h1
  have hg1 : g ≠ w.heap.size + 1 := by rintro rfl; have := BN1.symm.trans h1; simp at this
  clear hb h1 BN1 
  go_wp2_with fail
  refine bodyPost_ret (v := .agg #[.int .i32 st, .iface 39 (.pointer (some ⟨g, 0, none⟩))]) (by simp [results, Try.results8, go_sem, j0, j1]) rfl ?_
  exact ⟨g, rfl, (HH1.out.far hg1 _).far hg1 _, put2 HB.out (by omega)⟩
set_option maxRecDepth 100000 in
set_option maxHeartbeats 1000000 in
theorem zz4 (st : Int) (nm : ByteArray) (A : Option Addr) (n c : Nat) (w : World) (hn : nm.size ≤ 1048576) :
    Calls Try.prog 8 #[.agg #[.int .i32 st], .string nm, .int .u8 4, .slice A n c] w (NotP st (maxS ++ nm) (.slice A n c) w) := by
  have B0 := Lib.hid (show Below w.heap.size w ((w.alloc (.cells #[.int .i32 st] 28)).alloc (.cells #[.int .i32 0, .nilIface] 32)) from ((Below.refl _ _).alloc (Nat.le_refl _) _).alloc (by simp) _)
  have BN := Lib.hid (show Blk ((w.alloc (.cells #[.int .i32 st] 28)).alloc (.cells #[.int .i32 0, .nilIface] 32)) (w.heap.size + 1) 32 #[.int .i32 0, .nilIface] from Blk.new' (by simp))
  have k4 : ((w.alloc (.cells #[.int .i32 st] 28)).alloc (.cells #[.int .i32 0, .nilIface] 32)).cell? ⟨w.heap.size, 0, none⟩ = some (.int .i32 st) := by simp [go_sem]
  have hsz := Lib.hid (show ((w.alloc (.cells #[.int .i32 st] 28)).alloc (.cells #[.int .i32 0, .nilIface] 32)).heap.size = w.heap.size + 1 + 1 by simp)
  go_enter Try.func8, Try.ntmps8
  go_upto_region 1 with (fail)
  generalize (w.alloc (.cells #[.int .i32 st] 28)).alloc (.cells #[.int .i32 0, .nilIface] 32) = W0 at *
  go_wp2_with fail
  refine (low4 st nm A n c W0 hn).mono ?_
  rintro e w1 ⟨g, g', rfl, h1, h2, hb⟩
  have BN1 := BN.out.below hb BN.out.lt
  have j0 := BN1.cell 0
  have j1 := BN1.cell 1
  simp only [List.getElem?_toArray, List.getElem?_cons_zero, List.getElem?_cons_succ] at j0 j1
  have f0 := BN1.frozen 0
  have f1 := BN1.frozen 1
  have HB := Lib.hid (B0.out.trans (hb.mono B0.out.size))
  have HH1 := Lib.hid h1
  have hg1 : g' ≠ w.heap.size + 1 := by rintro rfl; have := BN1.symm.trans h1; simp at this
  have HH2 := Lib.hid h2
  have hg2 : g ≠ w.heap.size + 1 := by rintro rfl; have := BN1.symm.trans h2; simp at this
  clear hb h1 BN1 h2
  go_wp2_with fail
  refine bodyPost_ret (v := .agg #[.int .i32 st, .iface 62 (.pointer (some ⟨g', 0, none⟩))]) (by simp [results, Try.results8, go_sem, j0, j1]) rfl ?_
  exact ⟨g, g', rfl, (HH1.out.far hg1 _).far hg1 _, (HH2.out.far hg2 _).far hg2 _, put2 HB.out (by omega)⟩
set_option maxRecDepth 100000 in
set_option maxHeartbeats 1000000 in
theorem zz3 (st : Int) (nm : ByteArray) (A : Option Addr) (n c : Nat) (w : World) (hn : nm.size ≤ 1048576) :
    Calls Try.prog 8 #[.agg #[.int .i32 st], .string nm, .int .u8 3, .slice A n c] w (PlainP st (maxS ++ nm) (.slice A n c) w) := by
  have B0 := Lib.hid (show Below w.heap.size w ((w.alloc (.cells #[.int .i32 st] 28)).alloc (.cells #[.int .i32 0, .nilIface] 32)) from ((Below.refl _ _).alloc (Nat.le_refl _) _).alloc (by simp) _)
  have BN := Lib.hid (show Blk ((w.alloc (.cells #[.int .i32 st] 28)).alloc (.cells #[.int .i32 0, .nilIface] 32)) (w.heap.size + 1) 32 #[.int .i32 0, .nilIface] from Blk.new' (by simp))
  have k4 : ((w.alloc (.cells #[.int .i32 st] 28)).alloc (.cells #[.int .i32 0, .nilIface] 32)).cell? ⟨w.heap.size, 0, none⟩ = some (.int .i32 st) := by simp [go_sem]
  have hsz := Lib.hid (show ((w.alloc (.cells #[.int .i32 st] 28)).alloc (.cells #[.int .i32 0, .nilIface] 32)).heap.size = w.heap.size + 1 + 1 by simp)
  go_enter Try.func8, Try.ntmps8
  go_upto_region 1 with (fail)
  generalize (w.alloc (.cells #[.int .i32 st] 28)).alloc (.cells #[.int .i32 0, .nilIface] 32) = W0 at *
  go_wp2_with fail
  refine (low3 st nm A n c W0 hn).mono ?_
  rintro e w1 ⟨g, rfl, h1, hb⟩
  have BN1 := BN.out.below hb BN.out.lt
  have j0 := BN1.cell 0
  have j1 := BN1.cell 1
  simp only [List.getElem?_toArray, List.getElem?_cons_zero, List.getElem?_cons_succ] at j0 j1
  have f0 := BN1.frozen 0
  have f1 := BN1.frozen 1
  have HB := Lib.hid (B0.out.trans (hb.mono B0.out.size))
  have HH1 := Lib.hid h1
  have hg1 : g ≠ w.heap.size + 1 := by rintro rfl; have := BN1.symm.trans h1; simp at this
  clear hb h1 BN1 
  go_wp2_with fail
  refine bodyPost_ret (v := .agg #[.int .i32 st, .iface 39 (.pointer (some ⟨g, 0, none⟩))]) (by simp [results, Try.results8, go_sem, j0, j1]) rfl ?_
  exact ⟨g, rfl, (HH1.out.far hg1 _).far hg1 _, put2 HB.out (by omega)⟩
end Go.Proofs.Ytpbdfdmocaojgaa.MA
