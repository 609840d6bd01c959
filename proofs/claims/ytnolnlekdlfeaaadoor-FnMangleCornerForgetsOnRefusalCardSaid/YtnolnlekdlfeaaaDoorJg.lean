/- FnMangleCornerForgetsOnRefusal, walked. -/
import Derived.Test.YtnolnlekdlfeaaaDoorJf
namespace Go.Proofs.YtnolnlekdlfeaaaDoor.ZT
open Go.RowKit Go.Proofs.YtnolnlekdlfeaaaDoor.TB
set_option linter.unusedVariables false
set_option maxRecDepth 100000 in
set_option maxHeartbeats 8000000 in
theorem law4f (c l : Nat → Int) (md : Int) (imp mw : Bool) (w : World) (hc : ∀ i, i < 4 → 0 ≤ c i ∧ c i ≤ 255) (hm : 0 ≤ md ∧ md ≤ 255) :
    Calls Tryd.prog 4 #[.agg #[.int .u8 (c 0), .int .u8 (c 1), .int .u8 (c 2), .int .u8 (c 3)], .int .u8 md, .bool imp, .bool mw, .agg #[.int .i32 (l 0), .int .i32 (l 1), .int .i32 (l 2), .int .i32 (l 3), .int .i32 (l 4)]] w fun e w' => e = .returned (.bool true) ∧ Below w.heap.size w w' := by
  obtain ⟨i0, hi, hz0, hz1, hz2⟩ := info_parts info54
  have hmk := fun (W : World) => run_make (P := Tryd.prog) W 26 54 i0 _ Tryd.underlying26 hi hz0 .i64 .i64 5 5 (by omega) (by omega) (by rw [hz2]; omega) (by omega)
  simp only [hz1] at hmk
  have HC := Lib.hid hc
  have HM := Lib.hid hm
  clear hc hm
  go_enter Tryd.func4, Tryd.ntmps4
  have Z0 := Lib.hid (L0.new w c l)
  go_upto_region 4 with fail
  clear hmk
  generalize ((((w.alloc (.cells #[.int .u8 (c 0), .int .u8 (c 1), .int .u8 (c 2), .int .u8 (c 3)] 48)).alloc (.cells #[.int .i32 (l 0), .int .i32 (l 1), .int .i32 (l 2), .int .i32 (l 3), .int .i32 (l 4)] 59)).alloc (.cells (madeCells #[.nilIface, .int .i32 0] 10) 54)).alloc (.cells #[.pointer none, .pointer none, .pointer none, .pointer none, .pointer none] 60)) = W0 at *
  go_wp2_with fail
  refine (new15 _).mono ?_
  rintro e W1 ⟨gt, rfl, ht, hb, hge⟩
  obtain ⟨m, hmd⟩ : ∃ m, md.tmod 4 = m := ⟨_, rfl⟩
  have hm4 : m = 0 ∨ m = 1 ∨ m = 2 ∨ m = 3 := by
    have h := HM.out
    rw [Int.tmod_eq_emod_of_nonneg h.1] at hmd
    omega
  rw [hmd]
  obtain ⟨gc, hgc⟩ : ∃ gc, w.heap.size = gc := ⟨_, rfl⟩
  have LW0 := Lib.hid (show LW w c l gc (gc + 1) (gc + 1 + 1) (gc + 1 + 1 + 1) gt 0 (fun _ => 0) (fun _ => C0) false W1 from by
    obtain ⟨z1, z2, z3, z4, z5⟩ := Z0.out
    rw [hgc] at z1 z2 z3 z4
    have l4 := z4.lt
    refine ⟨z1.below hb z1.lt, z2.below hb z2.lt, ?_, ?_, ht, z5.trans (hb.mono z5.size), ⟨by omega, by omega, by omega, by omega, by omega⟩, ⟨by omega, by omega, by omega, by omega, by omega, by omega, by omega, by omega, by omega, by omega⟩⟩
    · exact (z3.below hb z3.lt).ext fun i j _ _ => by simp
    · exact (z4.below hb z4.lt).ext fun i j _ _ => by simp)
  have ST0 := Lib.hid (show ST c imp m 0 (fun _ => C0) false from ⟨fun _ => ⟨fun _ _ _ => rfl, fun _ => rfl, fun h => absurd h (by omega)⟩, fun h => absurd h (by omega)⟩)
  have GT := Lib.hid (show gc + 1 + 1 + 1 < gt by
    have := Z0.out.2.2.2.1.lt
    rw [hgc] at this
    omega)
  clear Z0 ht hb hge hmd
  go_wp2_with fail
  go_loopw [15] (fun i wr => ∃ (k : Nat) (D : Nat → Nat) (S : Nat → Cn) (im : Bool), k ≤ 4 ∧ i = .int .i64 k ∧ Hid (LW w c l gc (gc + 1) (gc + 1 + 1) (gc + 1 + 1 + 1) gt k D S im wr) ∧ Hid (ST c imp m k S im)) (fun i _ => 4 - (intOf i).toNat)
  case atStart => exact ⟨0, _, _, _, by omega, rfl, LW0, ST0⟩
  case round =>
    obtain ⟨k, D, S, im, hk, rfl, LL, SS⟩ := hrel
    clear LW0 ST0
    by_cases hlt : k < 4
    · have q1 : (0 : Int) ≤ (k : Int) := by omega
      have q2 : (k : Int) < 4 := by omega
      have x0 : wr.cell? ⟨gc, k, none⟩ = some (.int .u8 (c k)) := by simpa using LL.out.fc.cell (i := k) (j := 0) hlt (by omega)
      obtain ⟨ck, hck⟩ : ∃ ck, c k % 5 = ck := ⟨_, rfl⟩
      have hc5 : (c k).tmod 5 = ck := by rw [Int.tmod_eq_emod_of_nonneg (HC.out k hlt).1]; exact hck
      have hck5 : 0 ≤ ck ∧ ck < 5 := by omega
      have HCK := Lib.hid hck
      clear hck
      by_cases h3 : k = 3
      case neg =>
        have e3 : ((k : Int) == 3) = false := by rw [beq_eq_false_iff_ne]; omega
        have H3 := Lib.hid h3
        clear h3 hm4
        go_wp2_with fail
        refine (tok16 ck _ hck5.1 hck5.2).mono ?_
        rintro e W2 ⟨rfl, hb2⟩
        have L2 := Lib.hid hb2
        clear hb2 x0
        go_upto_region 20 with fail
        have L3 := Lib.hid (show LW w c l gc (gc + 1) (gc + 1 + 1) (gc + 1 + 1 + 1) gt k D S im ((W2.alloc (.cells #[.pointer none, .string (txT ck), .int .i32 0, .int .u32 0, .int .u16 0, .int .u8 (kdT ck), .int .u8 0] 47)).alloc (.cells #[.pointer none, .string (txT ck), .int .i32 0, .int .u32 0, .int .u16 0, .int .u8 (kdT ck), .int .u8 0] 47)) ∧ VAL imp (imp) m ck k gt (some ⟨W2.heap.size + 1, 0, none⟩) 1 1 ((W2.alloc (.cells #[.pointer none, .string (txT ck), .int .i32 0, .int .u32 0, .int .u16 0, .int .u8 (kdT ck), .int .u8 0] 47)).alloc (.cells #[.pointer none, .string (txT ck), .int .i32 0, .int .u32 0, .int .u16 0, .int .u8 (kdT ck), .int .u8 0] 47)) from
          ⟨(LL.out.below L2.out).below (((Below.refl _ _).alloc (Nat.le_refl _) _).alloc (by simp) _), .inl ⟨.inl ⟨by have := H3.out; omega, rfl⟩, _, rfl, rfl, Nat.le_refl _, (by have := (LL.out.below L2.out).ft.lt; omega), by simpa using Blk.new (W2.alloc (.cells #[.pointer none, .string (txT ck), .int .i32 0, .int .u32 0, .int .u16 0, .int .u8 (kdT ck), .int .u8 0] 47)) 47 #[.pointer none, .string (txT ck), .int .i32 0, .int .u32 0, .int .u16 0, .int .u8 (kdT ck), .int .u8 0]⟩⟩)
        generalize ((W2.alloc (.cells #[.pointer none, .string (txT ck), .int .i32 0, .int .u32 0, .int .u16 0, .int .u8 (kdT ck), .int .u8 0] 47)).alloc (.cells #[.pointer none, .string (txT ck), .int .i32 0, .int .u32 0, .int .u16 0, .int .u8 (kdT ck), .int .u8 0] 47)) = W3 at *
        generalize W2.heap.size + 1 = gv at *
        clear L2 LL
        have y0 : W3.cell? ⟨gc + 1 + 1 + 1, k, none⟩ = some (.pointer none) := by
          have := L3.out.1.fd.cell (i := k) (j := 0) (by omega) (by omega)
          simpa using this
        have y1 : W3.frozen? ⟨gc + 1 + 1 + 1, k, none⟩ = false := L3.out.1.fd.frozen _
        have hl3 : gc + 1 + 1 + 1 < W3.heap.size := L3.out.1.fd.lt
        have ne3 : ¬ gc + 1 + 1 + 1 = W3.heap.size := by omega
        have ne4 : ¬ W3.heap.size = gc + 1 + 1 + 1 := by omega
        have q3 : (k : Int) < 5 := by omega
        go_upto_region 21 with fail
        have L4 := Lib.hid (show (Tab ((W3.setCell ⟨gc + 1 + 1 + 1, k, none⟩ (.pointer (some ⟨W3.heap.size, 0, none⟩))).alloc (.cells #[.string ⟨#[]⟩, .slice (some ⟨gv, 0, none⟩) 1 1, .int .i32 0, .int .i32 0, .int .u16 0, .bool imp] 40)) gc 48 1 4 (fun i _ => .int .u8 (c i)) ∧ Tab ((W3.setCell ⟨gc + 1 + 1 + 1, k, none⟩ (.pointer (some ⟨W3.heap.size, 0, none⟩))).alloc (.cells #[.string ⟨#[]⟩, .slice (some ⟨gv, 0, none⟩) 1 1, .int .i32 0, .int .i32 0, .int .u16 0, .bool imp] 40)) (gc + 1) 59 1 5 (fun i _ => .int .i32 (l i)) ∧
            Tab ((W3.setCell ⟨gc + 1 + 1 + 1, k, none⟩ (.pointer (some ⟨W3.heap.size, 0, none⟩))).alloc (.cells #[.string ⟨#[]⟩, .slice (some ⟨gv, 0, none⟩) 1 1, .int .i32 0, .int .i32 0, .int .u16 0, .bool imp] 40)) (gc + 1 + 1) 54 2 5 (fun i j => if i < k then #[Value.iface 25 (.pointer (some ⟨D i, 0, none⟩)), .int .i32 (l i)][j]! else #[Value.nilIface, .int .i32 0][j]!) ∧
            Tab ((W3.setCell ⟨gc + 1 + 1 + 1, k, none⟩ (.pointer (some ⟨W3.heap.size, 0, none⟩))).alloc (.cells #[.string ⟨#[]⟩, .slice (some ⟨gv, 0, none⟩) 1 1, .int .i32 0, .int .i32 0, .int .u16 0, .bool imp] 40)) (gc + 1 + 1 + 1) 60 1 5 (fun i _ => if i < k + 1 then .pointer (some ⟨if i = k then W3.heap.size else D i, 0, none⟩) else .pointer none) ∧
            Tk ((W3.setCell ⟨gc + 1 + 1 + 1, k, none⟩ (.pointer (some ⟨W3.heap.size, 0, none⟩))).alloc (.cells #[.string ⟨#[]⟩, .slice (some ⟨gv, 0, none⟩) 1 1, .int .i32 0, .int .i32 0, .int .u16 0, .bool imp] 40)) gt S im ∧ Below w.heap.size w ((W3.setCell ⟨gc + 1 + 1 + 1, k, none⟩ (.pointer (some ⟨W3.heap.size, 0, none⟩))).alloc (.cells #[.string ⟨#[]⟩, .slice (some ⟨gv, 0, none⟩) 1 1, .int .i32 0, .int .i32 0, .int .u16 0, .bool imp] 40))) ∧ VAL imp (imp) m ck k gt (some ⟨gv, 0, none⟩) 1 1 ((W3.setCell ⟨gc + 1 + 1 + 1, k, none⟩ (.pointer (some ⟨W3.heap.size, 0, none⟩))).alloc (.cells #[.string ⟨#[]⟩, .slice (some ⟨gv, 0, none⟩) 1 1, .int .i32 0, .int .i32 0, .int .u16 0, .bool imp] 40)) ∧ Blk ((W3.setCell ⟨gc + 1 + 1 + 1, k, none⟩ (.pointer (some ⟨W3.heap.size, 0, none⟩))).alloc (.cells #[.string ⟨#[]⟩, .slice (some ⟨gv, 0, none⟩) 1 1, .int .i32 0, .int .i32 0, .int .u16 0, .bool imp] 40)) W3.heap.size 40 #[.string ⟨#[]⟩, .slice (some ⟨gv, 0, none⟩) 1 1, .int .i32 0, .int .i32 0, .int .u16 0, .bool imp] ∧ gt < W3.heap.size from
          ⟨L3.out.1.decl (by omega) _, (L3.out.2.far (show gc + 1 + 1 + 1 ≤ gt by have := GT.out; omega) _).alloc _, by simpa using Blk.new (W3.setCell ⟨gc + 1 + 1 + 1, k, none⟩ (.pointer (some ⟨W3.heap.size, 0, none⟩))) 40 #[.string ⟨#[]⟩, .slice (some ⟨gv, 0, none⟩) 1 1, .int .i32 0, .int .i32 0, .int .u16 0, .bool imp], L3.out.1.ft.lt⟩)
        have F4 := Lib.hid (And.intro L3.out.1.fh L3.out.1.fn)
        generalize ((W3.setCell ⟨gc + 1 + 1 + 1, k, none⟩ (.pointer (some ⟨W3.heap.size, 0, none⟩))).alloc (.cells #[.string ⟨#[]⟩, .slice (some ⟨gv, 0, none⟩) 1 1, .int .i32 0, .int .i32 0, .int .u16 0, .bool imp] 40)) = W4 at *
        generalize W3.heap.size = dd at *
        clear y0 y1 hl3 ne3 ne4 L3
        have z0 : W4.cell? ⟨gc + 1, k, none⟩ = some (.int .i32 (l k)) := by
          have := L4.out.1.2.1.cell (i := k) (j := 0) (by omega) (by omega)
          simpa using this
        have z1 : W4.cell? ⟨gc + 1 + 1, k * 2, none⟩ = some .nilIface := by
          have := L4.out.1.2.2.1.cell (i := k) (j := 0) (by omega) (by omega)
          simpa using this
        have z2 : W4.cell? ⟨gc + 1 + 1, k * 2 + 1, none⟩ = some (.int .i32 0) := by
          have := L4.out.1.2.2.1.cell (i := k) (j := 1) (by omega) (by omega)
          simpa using this
        have z3 : W4.frozen? ⟨gc + 1 + 1, k * 2, none⟩ = false := L4.out.1.2.2.1.frozen _
        have z4 : W4.frozen? ⟨gc + 1 + 1, k * 2 + 1, none⟩ = false := L4.out.1.2.2.1.frozen _
        have y0 : W4.cell? ⟨gc + 1 + 1 + 1, k, none⟩ = some (.pointer (some ⟨dd, 0, none⟩)) := by
          have := L4.out.1.2.2.2.1.cell (i := k) (j := 0) (by omega) (by omega)
          simpa using this
        have n1 : ¬ gc + 1 + 1 = gc + 1 + 1 + 1 := by omega
        have n2 : ¬ gc + 1 = gc + 1 + 1 := by omega
        have n3 : ¬ gc + 1 + 1 + 1 = gc + 1 + 1 := by omega
        have n4 : ¬ gc + 1 + 1 = gc + 1 := by omega
        go_region
        clear z0 z1 z2 z3 z4 y0 n1 n2 n3 n4
        have L5 := Lib.hid (show LW w c l gc (gc + 1) (gc + 1 + 1) (gc + 1 + 1 + 1) gt (k + 1) (fun i => if i = k then dd else D i) S im (((W4.setCell ⟨gc + 1 + 1, k * 2, none⟩ (.iface 25 (.pointer (some ⟨dd, 0, none⟩)))).setCell ⟨gc + 1 + 1, k * 2 + 1, none⟩ (.int .i32 (l k))).drew) ∧ VAL imp (imp) m ck k gt (some ⟨gv, 0, none⟩) 1 1 (((W4.setCell ⟨gc + 1 + 1, k * 2, none⟩ (.iface 25 (.pointer (some ⟨dd, 0, none⟩)))).setCell ⟨gc + 1 + 1, k * 2 + 1, none⟩ (.int .i32 (l k))).drew) ∧ Blk (((W4.setCell ⟨gc + 1 + 1, k * 2, none⟩ (.iface 25 (.pointer (some ⟨dd, 0, none⟩)))).setCell ⟨gc + 1 + 1, k * 2 + 1, none⟩ (.int .i32 (l k))).drew) dd 40 #[.string ⟨#[]⟩, .slice (some ⟨gv, 0, none⟩) 1 1, .int .i32 0, .int .i32 0, .int .u16 0, .bool imp] ∧ dd ≠ gt from by
          obtain ⟨⟨a1, a2, a3, a4, a5, a6⟩, b, d, e⟩ := L4.out
          have g := GT.out
          exact ⟨(LW.rule (by omega) a1 a2 a3 a4 a5 a6 F4.out.1 F4.out.2).below (Below.refl _ _).drew, ((b.far (by show gc + 1 + 1 ≤ gt; omega) _).far (by show gc + 1 + 1 ≤ gt; omega) _).below (Below.refl _ _).drew, ((d.far (p := ⟨gc + 1 + 1, k * 2, none⟩) (by show dd ≠ gc + 1 + 1; omega) _).far (p := ⟨gc + 1 + 1, k * 2 + 1, none⟩) (by show dd ≠ gc + 1 + 1; omega) _).drew, by omega⟩)
        generalize (((W4.setCell ⟨gc + 1 + 1, k * 2, none⟩ (.iface 25 (.pointer (some ⟨dd, 0, none⟩)))).setCell ⟨gc + 1 + 1, k * 2 + 1, none⟩ (.int .i32 (l k))).drew) = W5 at *
        clear L4 F4
        have y0 : W5.cell? ⟨gc + 1 + 1 + 1, k, none⟩ = some (.pointer (some ⟨dd, 0, none⟩)) := by
          have := L5.out.1.fd.cell (i := k) (j := 0) (by omega) (by omega)
          simpa using this
        have w1 : IntKind.i64.wrap ((k : Int) + 1) = (k : Int) + 1 := by rw [IntKind.wrap_i64]; omega
        have q4 : (0 : Int) ≤ (k : Int) + 1 := by omega
        have q5 : (k : Int) + 1 ≤ 5 := by omega
        go_upto_region 22 with fail
        go_region_with (go_at_call 17; refine (step17 (by omega) (L5.out.1.below (Below.refl _ _).drew) SS.out HCK.out L5.out.2.2.1.drew L5.out.2.2.2 (L5.out.2.1.below (Below.refl _ _).drew) rfl).mono ?_; rintro e w9 ⟨rfl, S', im', hL9, hS9⟩; have LN := Lib.hid hL9; have SN := Lib.hid hS9; clear hL9 hS9)
        clear y0 L5 SS
        go_wp2_with fail
        go_roundw
        case rel => exact ⟨k + 1, _, _, _, by omega, by go_num, LN, SN⟩
        case measure => simp [intOf]; omega
      case pos =>
        have e3 : ((k : Int) == 3) = true := by rw [beq_iff_eq]; omega
        have H3 := Lib.hid h3
        clear h3
        rcases hm4 with hm | hm | hm | hm
        case inl =>
          have f0 : (m == 0) = true := by rw [beq_iff_eq]; exact hm
          have f1 : (m == 1) = false := by rw [beq_eq_false_iff_ne]; omega
          have f2 : (m == 2) = false := by rw [beq_eq_false_iff_ne]; omega
          have f3 : (m == 3) = false := by rw [beq_eq_false_iff_ne]; omega
          have HM0 := Lib.hid hm
          clear hm
          go_wp2_with fail
          refine (tok16 ck _ hck5.1 hck5.2).mono ?_
          rintro e W2 ⟨rfl, hb2⟩
          have L2 := Lib.hid hb2
          clear hb2 x0
          go_upto_region 20 with fail
          have L3 := Lib.hid (show LW w c l gc (gc + 1) (gc + 1 + 1) (gc + 1 + 1 + 1) gt k D S im ((W2.alloc (.cells #[.pointer none, .string (txT ck), .int .i32 0, .int .u32 0, .int .u16 0, .int .u8 (kdT ck), .int .u8 0] 47)).alloc (.cells #[.pointer none, .string (txT ck), .int .i32 0, .int .u32 0, .int .u16 0, .int .u8 (kdT ck), .int .u8 0] 47)) ∧ VAL imp (!imp) m ck k gt (some ⟨W2.heap.size + 1, 0, none⟩) 1 1 ((W2.alloc (.cells #[.pointer none, .string (txT ck), .int .i32 0, .int .u32 0, .int .u16 0, .int .u8 (kdT ck), .int .u8 0] 47)).alloc (.cells #[.pointer none, .string (txT ck), .int .i32 0, .int .u32 0, .int .u16 0, .int .u8 (kdT ck), .int .u8 0] 47)) from
            ⟨(LL.out.below L2.out).below (((Below.refl _ _).alloc (Nat.le_refl _) _).alloc (by simp) _), .inl ⟨.inr ⟨H3.out, HM0.out, rfl⟩, _, rfl, rfl, Nat.le_refl _, (by have := (LL.out.below L2.out).ft.lt; omega), by simpa using Blk.new (W2.alloc (.cells #[.pointer none, .string (txT ck), .int .i32 0, .int .u32 0, .int .u16 0, .int .u8 (kdT ck), .int .u8 0] 47)) 47 #[.pointer none, .string (txT ck), .int .i32 0, .int .u32 0, .int .u16 0, .int .u8 (kdT ck), .int .u8 0]⟩⟩)
          generalize ((W2.alloc (.cells #[.pointer none, .string (txT ck), .int .i32 0, .int .u32 0, .int .u16 0, .int .u8 (kdT ck), .int .u8 0] 47)).alloc (.cells #[.pointer none, .string (txT ck), .int .i32 0, .int .u32 0, .int .u16 0, .int .u8 (kdT ck), .int .u8 0] 47)) = W3 at *
          generalize W2.heap.size + 1 = gv at *
          clear L2 LL
          have y0 : W3.cell? ⟨gc + 1 + 1 + 1, k, none⟩ = some (.pointer none) := by
            have := L3.out.1.fd.cell (i := k) (j := 0) (by omega) (by omega)
            simpa using this
          have y1 : W3.frozen? ⟨gc + 1 + 1 + 1, k, none⟩ = false := L3.out.1.fd.frozen _
          have hl3 : gc + 1 + 1 + 1 < W3.heap.size := L3.out.1.fd.lt
          have ne3 : ¬ gc + 1 + 1 + 1 = W3.heap.size := by omega
          have ne4 : ¬ W3.heap.size = gc + 1 + 1 + 1 := by omega
          have q3 : (k : Int) < 5 := by omega
          go_upto_region 21 with fail
          have L4 := Lib.hid (show (Tab ((W3.setCell ⟨gc + 1 + 1 + 1, k, none⟩ (.pointer (some ⟨W3.heap.size, 0, none⟩))).alloc (.cells #[.string ⟨#[]⟩, .slice (some ⟨gv, 0, none⟩) 1 1, .int .i32 0, .int .i32 0, .int .u16 0, .bool !imp] 40)) gc 48 1 4 (fun i _ => .int .u8 (c i)) ∧ Tab ((W3.setCell ⟨gc + 1 + 1 + 1, k, none⟩ (.pointer (some ⟨W3.heap.size, 0, none⟩))).alloc (.cells #[.string ⟨#[]⟩, .slice (some ⟨gv, 0, none⟩) 1 1, .int .i32 0, .int .i32 0, .int .u16 0, .bool !imp] 40)) (gc + 1) 59 1 5 (fun i _ => .int .i32 (l i)) ∧
              Tab ((W3.setCell ⟨gc + 1 + 1 + 1, k, none⟩ (.pointer (some ⟨W3.heap.size, 0, none⟩))).alloc (.cells #[.string ⟨#[]⟩, .slice (some ⟨gv, 0, none⟩) 1 1, .int .i32 0, .int .i32 0, .int .u16 0, .bool !imp] 40)) (gc + 1 + 1) 54 2 5 (fun i j => if i < k then #[Value.iface 25 (.pointer (some ⟨D i, 0, none⟩)), .int .i32 (l i)][j]! else #[Value.nilIface, .int .i32 0][j]!) ∧
              Tab ((W3.setCell ⟨gc + 1 + 1 + 1, k, none⟩ (.pointer (some ⟨W3.heap.size, 0, none⟩))).alloc (.cells #[.string ⟨#[]⟩, .slice (some ⟨gv, 0, none⟩) 1 1, .int .i32 0, .int .i32 0, .int .u16 0, .bool !imp] 40)) (gc + 1 + 1 + 1) 60 1 5 (fun i _ => if i < k + 1 then .pointer (some ⟨if i = k then W3.heap.size else D i, 0, none⟩) else .pointer none) ∧
              Tk ((W3.setCell ⟨gc + 1 + 1 + 1, k, none⟩ (.pointer (some ⟨W3.heap.size, 0, none⟩))).alloc (.cells #[.string ⟨#[]⟩, .slice (some ⟨gv, 0, none⟩) 1 1, .int .i32 0, .int .i32 0, .int .u16 0, .bool !imp] 40)) gt S im ∧ Below w.heap.size w ((W3.setCell ⟨gc + 1 + 1 + 1, k, none⟩ (.pointer (some ⟨W3.heap.size, 0, none⟩))).alloc (.cells #[.string ⟨#[]⟩, .slice (some ⟨gv, 0, none⟩) 1 1, .int .i32 0, .int .i32 0, .int .u16 0, .bool !imp] 40))) ∧ VAL imp (!imp) m ck k gt (some ⟨gv, 0, none⟩) 1 1 ((W3.setCell ⟨gc + 1 + 1 + 1, k, none⟩ (.pointer (some ⟨W3.heap.size, 0, none⟩))).alloc (.cells #[.string ⟨#[]⟩, .slice (some ⟨gv, 0, none⟩) 1 1, .int .i32 0, .int .i32 0, .int .u16 0, .bool !imp] 40)) ∧ Blk ((W3.setCell ⟨gc + 1 + 1 + 1, k, none⟩ (.pointer (some ⟨W3.heap.size, 0, none⟩))).alloc (.cells #[.string ⟨#[]⟩, .slice (some ⟨gv, 0, none⟩) 1 1, .int .i32 0, .int .i32 0, .int .u16 0, .bool !imp] 40)) W3.heap.size 40 #[.string ⟨#[]⟩, .slice (some ⟨gv, 0, none⟩) 1 1, .int .i32 0, .int .i32 0, .int .u16 0, .bool !imp] ∧ gt < W3.heap.size from
            ⟨L3.out.1.decl (by omega) _, (L3.out.2.far (show gc + 1 + 1 + 1 ≤ gt by have := GT.out; omega) _).alloc _, by simpa using Blk.new (W3.setCell ⟨gc + 1 + 1 + 1, k, none⟩ (.pointer (some ⟨W3.heap.size, 0, none⟩))) 40 #[.string ⟨#[]⟩, .slice (some ⟨gv, 0, none⟩) 1 1, .int .i32 0, .int .i32 0, .int .u16 0, .bool !imp], L3.out.1.ft.lt⟩)
          have F4 := Lib.hid (And.intro L3.out.1.fh L3.out.1.fn)
          generalize ((W3.setCell ⟨gc + 1 + 1 + 1, k, none⟩ (.pointer (some ⟨W3.heap.size, 0, none⟩))).alloc (.cells #[.string ⟨#[]⟩, .slice (some ⟨gv, 0, none⟩) 1 1, .int .i32 0, .int .i32 0, .int .u16 0, .bool !imp] 40)) = W4 at *
          generalize W3.heap.size = dd at *
          clear y0 y1 hl3 ne3 ne4 L3
          have z0 : W4.cell? ⟨gc + 1, k, none⟩ = some (.int .i32 (l k)) := by
            have := L4.out.1.2.1.cell (i := k) (j := 0) (by omega) (by omega)
            simpa using this
          have z1 : W4.cell? ⟨gc + 1 + 1, k * 2, none⟩ = some .nilIface := by
            have := L4.out.1.2.2.1.cell (i := k) (j := 0) (by omega) (by omega)
            simpa using this
          have z2 : W4.cell? ⟨gc + 1 + 1, k * 2 + 1, none⟩ = some (.int .i32 0) := by
            have := L4.out.1.2.2.1.cell (i := k) (j := 1) (by omega) (by omega)
            simpa using this
          have z3 : W4.frozen? ⟨gc + 1 + 1, k * 2, none⟩ = false := L4.out.1.2.2.1.frozen _
          have z4 : W4.frozen? ⟨gc + 1 + 1, k * 2 + 1, none⟩ = false := L4.out.1.2.2.1.frozen _
          have y0 : W4.cell? ⟨gc + 1 + 1 + 1, k, none⟩ = some (.pointer (some ⟨dd, 0, none⟩)) := by
            have := L4.out.1.2.2.2.1.cell (i := k) (j := 0) (by omega) (by omega)
            simpa using this
          have n1 : ¬ gc + 1 + 1 = gc + 1 + 1 + 1 := by omega
          have n2 : ¬ gc + 1 = gc + 1 + 1 := by omega
          have n3 : ¬ gc + 1 + 1 + 1 = gc + 1 + 1 := by omega
          have n4 : ¬ gc + 1 + 1 = gc + 1 := by omega
          go_region
          clear z0 z1 z2 z3 z4 y0 n1 n2 n3 n4
          have L5 := Lib.hid (show LW w c l gc (gc + 1) (gc + 1 + 1) (gc + 1 + 1 + 1) gt (k + 1) (fun i => if i = k then dd else D i) S im (((W4.setCell ⟨gc + 1 + 1, k * 2, none⟩ (.iface 25 (.pointer (some ⟨dd, 0, none⟩)))).setCell ⟨gc + 1 + 1, k * 2 + 1, none⟩ (.int .i32 (l k))).drew) ∧ VAL imp (!imp) m ck k gt (some ⟨gv, 0, none⟩) 1 1 (((W4.setCell ⟨gc + 1 + 1, k * 2, none⟩ (.iface 25 (.pointer (some ⟨dd, 0, none⟩)))).setCell ⟨gc + 1 + 1, k * 2 + 1, none⟩ (.int .i32 (l k))).drew) ∧ Blk (((W4.setCell ⟨gc + 1 + 1, k * 2, none⟩ (.iface 25 (.pointer (some ⟨dd, 0, none⟩)))).setCell ⟨gc + 1 + 1, k * 2 + 1, none⟩ (.int .i32 (l k))).drew) dd 40 #[.string ⟨#[]⟩, .slice (some ⟨gv, 0, none⟩) 1 1, .int .i32 0, .int .i32 0, .int .u16 0, .bool !imp] ∧ dd ≠ gt from by
            obtain ⟨⟨a1, a2, a3, a4, a5, a6⟩, b, d, e⟩ := L4.out
            have g := GT.out
            exact ⟨(LW.rule (by omega) a1 a2 a3 a4 a5 a6 F4.out.1 F4.out.2).below (Below.refl _ _).drew, ((b.far (by show gc + 1 + 1 ≤ gt; omega) _).far (by show gc + 1 + 1 ≤ gt; omega) _).below (Below.refl _ _).drew, ((d.far (p := ⟨gc + 1 + 1, k * 2, none⟩) (by show dd ≠ gc + 1 + 1; omega) _).far (p := ⟨gc + 1 + 1, k * 2 + 1, none⟩) (by show dd ≠ gc + 1 + 1; omega) _).drew, by omega⟩)
          generalize (((W4.setCell ⟨gc + 1 + 1, k * 2, none⟩ (.iface 25 (.pointer (some ⟨dd, 0, none⟩)))).setCell ⟨gc + 1 + 1, k * 2 + 1, none⟩ (.int .i32 (l k))).drew) = W5 at *
          clear L4 F4
          have y0 : W5.cell? ⟨gc + 1 + 1 + 1, k, none⟩ = some (.pointer (some ⟨dd, 0, none⟩)) := by
            have := L5.out.1.fd.cell (i := k) (j := 0) (by omega) (by omega)
            simpa using this
          have w1 : IntKind.i64.wrap ((k : Int) + 1) = (k : Int) + 1 := by rw [IntKind.wrap_i64]; omega
          have q4 : (0 : Int) ≤ (k : Int) + 1 := by omega
          have q5 : (k : Int) + 1 ≤ 5 := by omega
          go_upto_region 22 with fail
          go_region_with (go_at_call 17; refine (step17 (by omega) (L5.out.1.below (Below.refl _ _).drew) SS.out HCK.out L5.out.2.2.1.drew L5.out.2.2.2 (L5.out.2.1.below (Below.refl _ _).drew) rfl).mono ?_; rintro e w9 ⟨rfl, S', im', hL9, hS9⟩; have LN := Lib.hid hL9; have SN := Lib.hid hS9; clear hL9 hS9)
          clear y0 L5 SS
          go_wp2_with fail
          go_roundw
          case rel => exact ⟨k + 1, _, _, _, by omega, by go_num, LN, SN⟩
          case measure => simp [intOf]; omega
        case inr.inl =>
          have f0 : (m == 0) = false := by rw [beq_eq_false_iff_ne]; omega
          have f1 : (m == 1) = true := by rw [beq_iff_eq]; exact hm
          have f2 : (m == 2) = false := by rw [beq_eq_false_iff_ne]; omega
          have f3 : (m == 3) = false := by rw [beq_eq_false_iff_ne]; omega
          have HM0 := Lib.hid hm
          clear hm
          go_wp2_with fail
          refine (tok16 ck _ hck5.1 hck5.2).mono ?_
          rintro e W2 ⟨rfl, hb2⟩
          have L2 := Lib.hid hb2
          clear hb2 x0
          go_wp2_with fail
          have X2 := Lib.hid (show Below wr.heap.size wr ((W2.alloc (.cells #[.pointer none, .string (txT ck), .int .i32 0, .int .u32 0, .int .u16 0, .int .u8 (kdT ck), .int .u8 0] 47)).alloc (.cells #[.pointer none, .string (txT ck), .int .i32 0, .int .u32 0, .int .u16 0, .int .u8 (kdT ck), .int .u8 0] 47)) from L2.out.trans ((((Below.refl _ _).alloc (Nat.le_refl _) _).alloc (by simp) _).mono L2.out.size))
          generalize ((W2.alloc (.cells #[.pointer none, .string (txT ck), .int .i32 0, .int .u32 0, .int .u16 0, .int .u8 (kdT ck), .int .u8 0] 47)).alloc (.cells #[.pointer none, .string (txT ck), .int .i32 0, .int .u32 0, .int .u16 0, .int .u8 (kdT ck), .int .u8 0] 47)) = W22 at *
          refine (tok16i _).mono ?_
          rintro e W5 ⟨rfl, hb5⟩
          clear L2
          have L2 := Lib.hid (X2.out.trans (hb5.mono X2.out.size))
          clear hb5 X2
          go_upto_region 20 with fail
          have L3 := Lib.hid (show LW w c l gc (gc + 1) (gc + 1 + 1) (gc + 1 + 1 + 1) gt k D S im (W5.alloc (.cells #[.pointer none, .string ⟨#[97, 117, 116, 111]⟩, .int .i32 0, .int .u32 0, .int .u16 0, .int .u8 29, .int .u8 0] 47)) ∧ VAL imp (imp) m ck k gt (some ⟨W5.heap.size, 0, none⟩) 1 1 (W5.alloc (.cells #[.pointer none, .string ⟨#[97, 117, 116, 111]⟩, .int .i32 0, .int .u32 0, .int .u16 0, .int .u8 29, .int .u8 0] 47)) from
            ⟨(LL.out.below L2.out).below ((Below.refl _ _).alloc (Nat.le_refl _) _), .inr ⟨H3.out, by have := HM0.out; omega, rfl, .inr (.inr ⟨rfl, Nat.le_refl _, _, rfl, (by have := (LL.out.below L2.out).ft.lt; omega), _, Blk.new W5 47 #[.pointer none, .string ⟨#[97, 117, 116, 111]⟩, .int .i32 0, .int .u32 0, .int .u16 0, .int .u8 29, .int .u8 0], rfl⟩)⟩⟩)
          generalize (W5.alloc (.cells #[.pointer none, .string ⟨#[97, 117, 116, 111]⟩, .int .i32 0, .int .u32 0, .int .u16 0, .int .u8 29, .int .u8 0] 47)) = W3 at *
          generalize W5.heap.size = gv at *
          clear L2 LL
          have y0 : W3.cell? ⟨gc + 1 + 1 + 1, k, none⟩ = some (.pointer none) := by
            have := L3.out.1.fd.cell (i := k) (j := 0) (by omega) (by omega)
            simpa using this
          have y1 : W3.frozen? ⟨gc + 1 + 1 + 1, k, none⟩ = false := L3.out.1.fd.frozen _
          have hl3 : gc + 1 + 1 + 1 < W3.heap.size := L3.out.1.fd.lt
          have ne3 : ¬ gc + 1 + 1 + 1 = W3.heap.size := by omega
          have ne4 : ¬ W3.heap.size = gc + 1 + 1 + 1 := by omega
          have q3 : (k : Int) < 5 := by omega
          go_upto_region 21 with fail
          have L4 := Lib.hid (show (Tab ((W3.setCell ⟨gc + 1 + 1 + 1, k, none⟩ (.pointer (some ⟨W3.heap.size, 0, none⟩))).alloc (.cells #[.string ⟨#[]⟩, .slice (some ⟨gv, 0, none⟩) 1 1, .int .i32 0, .int .i32 0, .int .u16 0, .bool imp] 40)) gc 48 1 4 (fun i _ => .int .u8 (c i)) ∧ Tab ((W3.setCell ⟨gc + 1 + 1 + 1, k, none⟩ (.pointer (some ⟨W3.heap.size, 0, none⟩))).alloc (.cells #[.string ⟨#[]⟩, .slice (some ⟨gv, 0, none⟩) 1 1, .int .i32 0, .int .i32 0, .int .u16 0, .bool imp] 40)) (gc + 1) 59 1 5 (fun i _ => .int .i32 (l i)) ∧
              Tab ((W3.setCell ⟨gc + 1 + 1 + 1, k, none⟩ (.pointer (some ⟨W3.heap.size, 0, none⟩))).alloc (.cells #[.string ⟨#[]⟩, .slice (some ⟨gv, 0, none⟩) 1 1, .int .i32 0, .int .i32 0, .int .u16 0, .bool imp] 40)) (gc + 1 + 1) 54 2 5 (fun i j => if i < k then #[Value.iface 25 (.pointer (some ⟨D i, 0, none⟩)), .int .i32 (l i)][j]! else #[Value.nilIface, .int .i32 0][j]!) ∧
              Tab ((W3.setCell ⟨gc + 1 + 1 + 1, k, none⟩ (.pointer (some ⟨W3.heap.size, 0, none⟩))).alloc (.cells #[.string ⟨#[]⟩, .slice (some ⟨gv, 0, none⟩) 1 1, .int .i32 0, .int .i32 0, .int .u16 0, .bool imp] 40)) (gc + 1 + 1 + 1) 60 1 5 (fun i _ => if i < k + 1 then .pointer (some ⟨if i = k then W3.heap.size else D i, 0, none⟩) else .pointer none) ∧
              Tk ((W3.setCell ⟨gc + 1 + 1 + 1, k, none⟩ (.pointer (some ⟨W3.heap.size, 0, none⟩))).alloc (.cells #[.string ⟨#[]⟩, .slice (some ⟨gv, 0, none⟩) 1 1, .int .i32 0, .int .i32 0, .int .u16 0, .bool imp] 40)) gt S im ∧ Below w.heap.size w ((W3.setCell ⟨gc + 1 + 1 + 1, k, none⟩ (.pointer (some ⟨W3.heap.size, 0, none⟩))).alloc (.cells #[.string ⟨#[]⟩, .slice (some ⟨gv, 0, none⟩) 1 1, .int .i32 0, .int .i32 0, .int .u16 0, .bool imp] 40))) ∧ VAL imp (imp) m ck k gt (some ⟨gv, 0, none⟩) 1 1 ((W3.setCell ⟨gc + 1 + 1 + 1, k, none⟩ (.pointer (some ⟨W3.heap.size, 0, none⟩))).alloc (.cells #[.string ⟨#[]⟩, .slice (some ⟨gv, 0, none⟩) 1 1, .int .i32 0, .int .i32 0, .int .u16 0, .bool imp] 40)) ∧ Blk ((W3.setCell ⟨gc + 1 + 1 + 1, k, none⟩ (.pointer (some ⟨W3.heap.size, 0, none⟩))).alloc (.cells #[.string ⟨#[]⟩, .slice (some ⟨gv, 0, none⟩) 1 1, .int .i32 0, .int .i32 0, .int .u16 0, .bool imp] 40)) W3.heap.size 40 #[.string ⟨#[]⟩, .slice (some ⟨gv, 0, none⟩) 1 1, .int .i32 0, .int .i32 0, .int .u16 0, .bool imp] ∧ gt < W3.heap.size from
            ⟨L3.out.1.decl (by omega) _, (L3.out.2.far (show gc + 1 + 1 + 1 ≤ gt by have := GT.out; omega) _).alloc _, by simpa using Blk.new (W3.setCell ⟨gc + 1 + 1 + 1, k, none⟩ (.pointer (some ⟨W3.heap.size, 0, none⟩))) 40 #[.string ⟨#[]⟩, .slice (some ⟨gv, 0, none⟩) 1 1, .int .i32 0, .int .i32 0, .int .u16 0, .bool imp], L3.out.1.ft.lt⟩)
          have F4 := Lib.hid (And.intro L3.out.1.fh L3.out.1.fn)
          generalize ((W3.setCell ⟨gc + 1 + 1 + 1, k, none⟩ (.pointer (some ⟨W3.heap.size, 0, none⟩))).alloc (.cells #[.string ⟨#[]⟩, .slice (some ⟨gv, 0, none⟩) 1 1, .int .i32 0, .int .i32 0, .int .u16 0, .bool imp] 40)) = W4 at *
          generalize W3.heap.size = dd at *
          clear y0 y1 hl3 ne3 ne4 L3
          have z0 : W4.cell? ⟨gc + 1, k, none⟩ = some (.int .i32 (l k)) := by
            have := L4.out.1.2.1.cell (i := k) (j := 0) (by omega) (by omega)
            simpa using this
          have z1 : W4.cell? ⟨gc + 1 + 1, k * 2, none⟩ = some .nilIface := by
            have := L4.out.1.2.2.1.cell (i := k) (j := 0) (by omega) (by omega)
            simpa using this
          have z2 : W4.cell? ⟨gc + 1 + 1, k * 2 + 1, none⟩ = some (.int .i32 0) := by
            have := L4.out.1.2.2.1.cell (i := k) (j := 1) (by omega) (by omega)
            simpa using this
          have z3 : W4.frozen? ⟨gc + 1 + 1, k * 2, none⟩ = false := L4.out.1.2.2.1.frozen _
          have z4 : W4.frozen? ⟨gc + 1 + 1, k * 2 + 1, none⟩ = false := L4.out.1.2.2.1.frozen _
          have y0 : W4.cell? ⟨gc + 1 + 1 + 1, k, none⟩ = some (.pointer (some ⟨dd, 0, none⟩)) := by
            have := L4.out.1.2.2.2.1.cell (i := k) (j := 0) (by omega) (by omega)
            simpa using this
          have n1 : ¬ gc + 1 + 1 = gc + 1 + 1 + 1 := by omega
          have n2 : ¬ gc + 1 = gc + 1 + 1 := by omega
          have n3 : ¬ gc + 1 + 1 + 1 = gc + 1 + 1 := by omega
          have n4 : ¬ gc + 1 + 1 = gc + 1 := by omega
          go_region
          clear z0 z1 z2 z3 z4 y0 n1 n2 n3 n4
          have L5 := Lib.hid (show LW w c l gc (gc + 1) (gc + 1 + 1) (gc + 1 + 1 + 1) gt (k + 1) (fun i => if i = k then dd else D i) S im (((W4.setCell ⟨gc + 1 + 1, k * 2, none⟩ (.iface 25 (.pointer (some ⟨dd, 0, none⟩)))).setCell ⟨gc + 1 + 1, k * 2 + 1, none⟩ (.int .i32 (l k))).drew) ∧ VAL imp (imp) m ck k gt (some ⟨gv, 0, none⟩) 1 1 (((W4.setCell ⟨gc + 1 + 1, k * 2, none⟩ (.iface 25 (.pointer (some ⟨dd, 0, none⟩)))).setCell ⟨gc + 1 + 1, k * 2 + 1, none⟩ (.int .i32 (l k))).drew) ∧ Blk (((W4.setCell ⟨gc + 1 + 1, k * 2, none⟩ (.iface 25 (.pointer (some ⟨dd, 0, none⟩)))).setCell ⟨gc + 1 + 1, k * 2 + 1, none⟩ (.int .i32 (l k))).drew) dd 40 #[.string ⟨#[]⟩, .slice (some ⟨gv, 0, none⟩) 1 1, .int .i32 0, .int .i32 0, .int .u16 0, .bool imp] ∧ dd ≠ gt from by
            obtain ⟨⟨a1, a2, a3, a4, a5, a6⟩, b, d, e⟩ := L4.out
            have g := GT.out
            exact ⟨(LW.rule (by omega) a1 a2 a3 a4 a5 a6 F4.out.1 F4.out.2).below (Below.refl _ _).drew, ((b.far (by show gc + 1 + 1 ≤ gt; omega) _).far (by show gc + 1 + 1 ≤ gt; omega) _).below (Below.refl _ _).drew, ((d.far (p := ⟨gc + 1 + 1, k * 2, none⟩) (by show dd ≠ gc + 1 + 1; omega) _).far (p := ⟨gc + 1 + 1, k * 2 + 1, none⟩) (by show dd ≠ gc + 1 + 1; omega) _).drew, by omega⟩)
          generalize (((W4.setCell ⟨gc + 1 + 1, k * 2, none⟩ (.iface 25 (.pointer (some ⟨dd, 0, none⟩)))).setCell ⟨gc + 1 + 1, k * 2 + 1, none⟩ (.int .i32 (l k))).drew) = W5 at *
          clear L4 F4
          have y0 : W5.cell? ⟨gc + 1 + 1 + 1, k, none⟩ = some (.pointer (some ⟨dd, 0, none⟩)) := by
            have := L5.out.1.fd.cell (i := k) (j := 0) (by omega) (by omega)
            simpa using this
          have w1 : IntKind.i64.wrap ((k : Int) + 1) = (k : Int) + 1 := by rw [IntKind.wrap_i64]; omega
          have q4 : (0 : Int) ≤ (k : Int) + 1 := by omega
          have q5 : (k : Int) + 1 ≤ 5 := by omega
          go_upto_region 22 with fail
          go_region_with (go_at_call 17; refine (step17 (by omega) (L5.out.1.below (Below.refl _ _).drew) SS.out HCK.out L5.out.2.2.1.drew L5.out.2.2.2 (L5.out.2.1.below (Below.refl _ _).drew) rfl).mono ?_; rintro e w9 ⟨rfl, S', im', hL9, hS9⟩; have LN := Lib.hid hL9; have SN := Lib.hid hS9; clear hL9 hS9)
          clear y0 L5 SS
          go_wp2_with fail
          go_roundw
          case rel => exact ⟨k + 1, _, _, _, by omega, by go_num, LN, SN⟩
          case measure => simp [intOf]; omega
        case inr.inr.inl =>
          have f0 : (m == 0) = false := by rw [beq_eq_false_iff_ne]; omega
          have f1 : (m == 1) = false := by rw [beq_eq_false_iff_ne]; omega
          have f2 : (m == 2) = true := by rw [beq_iff_eq]; exact hm
          have f3 : (m == 3) = false := by rw [beq_eq_false_iff_ne]; omega
          have HM0 := Lib.hid hm
          clear hm
          go_wp2_with fail
          refine (tok16 ck _ hck5.1 hck5.2).mono ?_
          rintro e W2 ⟨rfl, hb2⟩
          have L2 := Lib.hid hb2
          clear hb2 x0
          go_upto_region 20 with fail
          have L3 := Lib.hid (show LW w c l gc (gc + 1) (gc + 1 + 1) (gc + 1 + 1 + 1) gt k D S im (((W2.alloc (.cells #[.pointer none, .string (txT ck), .int .i32 0, .int .u32 0, .int .u16 0, .int .u8 (kdT ck), .int .u8 0] 47)).alloc (.cells #[.pointer none, .string (txT ck), .int .i32 0, .int .u32 0, .int .u16 0, .int .u8 (kdT ck), .int .u8 0] 47)).alloc (.cells #[.pointer none, .string (txT ck), .int .i32 0, .int .u32 0, .int .u16 0, .int .u8 (kdT ck), .int .u8 0, .pointer none, .string (txT ck), .int .i32 0, .int .u32 0, .int .u16 0, .int .u8 (kdT ck), .int .u8 0, .pointer none, .string (txT ck), .int .i32 0, .int .u32 0, .int .u16 0, .int .u8 (kdT ck), .int .u8 0] 47)) ∧ VAL imp (imp) m ck k gt (some ⟨W2.heap.size + 1 + 1, 0, none⟩) 3 3 (((W2.alloc (.cells #[.pointer none, .string (txT ck), .int .i32 0, .int .u32 0, .int .u16 0, .int .u8 (kdT ck), .int .u8 0] 47)).alloc (.cells #[.pointer none, .string (txT ck), .int .i32 0, .int .u32 0, .int .u16 0, .int .u8 (kdT ck), .int .u8 0] 47)).alloc (.cells #[.pointer none, .string (txT ck), .int .i32 0, .int .u32 0, .int .u16 0, .int .u8 (kdT ck), .int .u8 0, .pointer none, .string (txT ck), .int .i32 0, .int .u32 0, .int .u16 0, .int .u8 (kdT ck), .int .u8 0, .pointer none, .string (txT ck), .int .i32 0, .int .u32 0, .int .u16 0, .int .u8 (kdT ck), .int .u8 0] 47)) from
            ⟨(LL.out.below L2.out).below ((((Below.refl _ _).alloc (Nat.le_refl _) _).alloc (by simp) _).alloc (by simp; omega) _), .inr ⟨H3.out, by have := HM0.out; omega, rfl, .inr (.inl rfl)⟩⟩)
          generalize (((W2.alloc (.cells #[.pointer none, .string (txT ck), .int .i32 0, .int .u32 0, .int .u16 0, .int .u8 (kdT ck), .int .u8 0] 47)).alloc (.cells #[.pointer none, .string (txT ck), .int .i32 0, .int .u32 0, .int .u16 0, .int .u8 (kdT ck), .int .u8 0] 47)).alloc (.cells #[.pointer none, .string (txT ck), .int .i32 0, .int .u32 0, .int .u16 0, .int .u8 (kdT ck), .int .u8 0, .pointer none, .string (txT ck), .int .i32 0, .int .u32 0, .int .u16 0, .int .u8 (kdT ck), .int .u8 0, .pointer none, .string (txT ck), .int .i32 0, .int .u32 0, .int .u16 0, .int .u8 (kdT ck), .int .u8 0] 47)) = W3 at *
          generalize W2.heap.size + 1 + 1 = gv at *
          clear L2 LL
          have y0 : W3.cell? ⟨gc + 1 + 1 + 1, k, none⟩ = some (.pointer none) := by
            have := L3.out.1.fd.cell (i := k) (j := 0) (by omega) (by omega)
            simpa using this
          have y1 : W3.frozen? ⟨gc + 1 + 1 + 1, k, none⟩ = false := L3.out.1.fd.frozen _
          have hl3 : gc + 1 + 1 + 1 < W3.heap.size := L3.out.1.fd.lt
          have ne3 : ¬ gc + 1 + 1 + 1 = W3.heap.size := by omega
          have ne4 : ¬ W3.heap.size = gc + 1 + 1 + 1 := by omega
          have q3 : (k : Int) < 5 := by omega
          go_upto_region 21 with fail
          have L4 := Lib.hid (show (Tab ((W3.setCell ⟨gc + 1 + 1 + 1, k, none⟩ (.pointer (some ⟨W3.heap.size, 0, none⟩))).alloc (.cells #[.string ⟨#[]⟩, .slice (some ⟨gv, 0, none⟩) 3 3, .int .i32 0, .int .i32 0, .int .u16 0, .bool imp] 40)) gc 48 1 4 (fun i _ => .int .u8 (c i)) ∧ Tab ((W3.setCell ⟨gc + 1 + 1 + 1, k, none⟩ (.pointer (some ⟨W3.heap.size, 0, none⟩))).alloc (.cells #[.string ⟨#[]⟩, .slice (some ⟨gv, 0, none⟩) 3 3, .int .i32 0, .int .i32 0, .int .u16 0, .bool imp] 40)) (gc + 1) 59 1 5 (fun i _ => .int .i32 (l i)) ∧
              Tab ((W3.setCell ⟨gc + 1 + 1 + 1, k, none⟩ (.pointer (some ⟨W3.heap.size, 0, none⟩))).alloc (.cells #[.string ⟨#[]⟩, .slice (some ⟨gv, 0, none⟩) 3 3, .int .i32 0, .int .i32 0, .int .u16 0, .bool imp] 40)) (gc + 1 + 1) 54 2 5 (fun i j => if i < k then #[Value.iface 25 (.pointer (some ⟨D i, 0, none⟩)), .int .i32 (l i)][j]! else #[Value.nilIface, .int .i32 0][j]!) ∧
              Tab ((W3.setCell ⟨gc + 1 + 1 + 1, k, none⟩ (.pointer (some ⟨W3.heap.size, 0, none⟩))).alloc (.cells #[.string ⟨#[]⟩, .slice (some ⟨gv, 0, none⟩) 3 3, .int .i32 0, .int .i32 0, .int .u16 0, .bool imp] 40)) (gc + 1 + 1 + 1) 60 1 5 (fun i _ => if i < k + 1 then .pointer (some ⟨if i = k then W3.heap.size else D i, 0, none⟩) else .pointer none) ∧
              Tk ((W3.setCell ⟨gc + 1 + 1 + 1, k, none⟩ (.pointer (some ⟨W3.heap.size, 0, none⟩))).alloc (.cells #[.string ⟨#[]⟩, .slice (some ⟨gv, 0, none⟩) 3 3, .int .i32 0, .int .i32 0, .int .u16 0, .bool imp] 40)) gt S im ∧ Below w.heap.size w ((W3.setCell ⟨gc + 1 + 1 + 1, k, none⟩ (.pointer (some ⟨W3.heap.size, 0, none⟩))).alloc (.cells #[.string ⟨#[]⟩, .slice (some ⟨gv, 0, none⟩) 3 3, .int .i32 0, .int .i32 0, .int .u16 0, .bool imp] 40))) ∧ VAL imp (imp) m ck k gt (some ⟨gv, 0, none⟩) 3 3 ((W3.setCell ⟨gc + 1 + 1 + 1, k, none⟩ (.pointer (some ⟨W3.heap.size, 0, none⟩))).alloc (.cells #[.string ⟨#[]⟩, .slice (some ⟨gv, 0, none⟩) 3 3, .int .i32 0, .int .i32 0, .int .u16 0, .bool imp] 40)) ∧ Blk ((W3.setCell ⟨gc + 1 + 1 + 1, k, none⟩ (.pointer (some ⟨W3.heap.size, 0, none⟩))).alloc (.cells #[.string ⟨#[]⟩, .slice (some ⟨gv, 0, none⟩) 3 3, .int .i32 0, .int .i32 0, .int .u16 0, .bool imp] 40)) W3.heap.size 40 #[.string ⟨#[]⟩, .slice (some ⟨gv, 0, none⟩) 3 3, .int .i32 0, .int .i32 0, .int .u16 0, .bool imp] ∧ gt < W3.heap.size from
            ⟨L3.out.1.decl (by omega) _, (L3.out.2.far (show gc + 1 + 1 + 1 ≤ gt by have := GT.out; omega) _).alloc _, by simpa using Blk.new (W3.setCell ⟨gc + 1 + 1 + 1, k, none⟩ (.pointer (some ⟨W3.heap.size, 0, none⟩))) 40 #[.string ⟨#[]⟩, .slice (some ⟨gv, 0, none⟩) 3 3, .int .i32 0, .int .i32 0, .int .u16 0, .bool imp], L3.out.1.ft.lt⟩)
          have F4 := Lib.hid (And.intro L3.out.1.fh L3.out.1.fn)
          generalize ((W3.setCell ⟨gc + 1 + 1 + 1, k, none⟩ (.pointer (some ⟨W3.heap.size, 0, none⟩))).alloc (.cells #[.string ⟨#[]⟩, .slice (some ⟨gv, 0, none⟩) 3 3, .int .i32 0, .int .i32 0, .int .u16 0, .bool imp] 40)) = W4 at *
          generalize W3.heap.size = dd at *
          clear y0 y1 hl3 ne3 ne4 L3
          have z0 : W4.cell? ⟨gc + 1, k, none⟩ = some (.int .i32 (l k)) := by
            have := L4.out.1.2.1.cell (i := k) (j := 0) (by omega) (by omega)
            simpa using this
          have z1 : W4.cell? ⟨gc + 1 + 1, k * 2, none⟩ = some .nilIface := by
            have := L4.out.1.2.2.1.cell (i := k) (j := 0) (by omega) (by omega)
            simpa using this
          have z2 : W4.cell? ⟨gc + 1 + 1, k * 2 + 1, none⟩ = some (.int .i32 0) := by
            have := L4.out.1.2.2.1.cell (i := k) (j := 1) (by omega) (by omega)
            simpa using this
          have z3 : W4.frozen? ⟨gc + 1 + 1, k * 2, none⟩ = false := L4.out.1.2.2.1.frozen _
          have z4 : W4.frozen? ⟨gc + 1 + 1, k * 2 + 1, none⟩ = false := L4.out.1.2.2.1.frozen _
          have y0 : W4.cell? ⟨gc + 1 + 1 + 1, k, none⟩ = some (.pointer (some ⟨dd, 0, none⟩)) := by
            have := L4.out.1.2.2.2.1.cell (i := k) (j := 0) (by omega) (by omega)
            simpa using this
          have n1 : ¬ gc + 1 + 1 = gc + 1 + 1 + 1 := by omega
          have n2 : ¬ gc + 1 = gc + 1 + 1 := by omega
          have n3 : ¬ gc + 1 + 1 + 1 = gc + 1 + 1 := by omega
          have n4 : ¬ gc + 1 + 1 = gc + 1 := by omega
          go_region
          clear z0 z1 z2 z3 z4 y0 n1 n2 n3 n4
          have L5 := Lib.hid (show LW w c l gc (gc + 1) (gc + 1 + 1) (gc + 1 + 1 + 1) gt (k + 1) (fun i => if i = k then dd else D i) S im (((W4.setCell ⟨gc + 1 + 1, k * 2, none⟩ (.iface 25 (.pointer (some ⟨dd, 0, none⟩)))).setCell ⟨gc + 1 + 1, k * 2 + 1, none⟩ (.int .i32 (l k))).drew) ∧ VAL imp (imp) m ck k gt (some ⟨gv, 0, none⟩) 3 3 (((W4.setCell ⟨gc + 1 + 1, k * 2, none⟩ (.iface 25 (.pointer (some ⟨dd, 0, none⟩)))).setCell ⟨gc + 1 + 1, k * 2 + 1, none⟩ (.int .i32 (l k))).drew) ∧ Blk (((W4.setCell ⟨gc + 1 + 1, k * 2, none⟩ (.iface 25 (.pointer (some ⟨dd, 0, none⟩)))).setCell ⟨gc + 1 + 1, k * 2 + 1, none⟩ (.int .i32 (l k))).drew) dd 40 #[.string ⟨#[]⟩, .slice (some ⟨gv, 0, none⟩) 3 3, .int .i32 0, .int .i32 0, .int .u16 0, .bool imp] ∧ dd ≠ gt from by
            obtain ⟨⟨a1, a2, a3, a4, a5, a6⟩, b, d, e⟩ := L4.out
            have g := GT.out
            exact ⟨(LW.rule (by omega) a1 a2 a3 a4 a5 a6 F4.out.1 F4.out.2).below (Below.refl _ _).drew, ((b.far (by show gc + 1 + 1 ≤ gt; omega) _).far (by show gc + 1 + 1 ≤ gt; omega) _).below (Below.refl _ _).drew, ((d.far (p := ⟨gc + 1 + 1, k * 2, none⟩) (by show dd ≠ gc + 1 + 1; omega) _).far (p := ⟨gc + 1 + 1, k * 2 + 1, none⟩) (by show dd ≠ gc + 1 + 1; omega) _).drew, by omega⟩)
          generalize (((W4.setCell ⟨gc + 1 + 1, k * 2, none⟩ (.iface 25 (.pointer (some ⟨dd, 0, none⟩)))).setCell ⟨gc + 1 + 1, k * 2 + 1, none⟩ (.int .i32 (l k))).drew) = W5 at *
          clear L4 F4
          have y0 : W5.cell? ⟨gc + 1 + 1 + 1, k, none⟩ = some (.pointer (some ⟨dd, 0, none⟩)) := by
            have := L5.out.1.fd.cell (i := k) (j := 0) (by omega) (by omega)
            simpa using this
          have w1 : IntKind.i64.wrap ((k : Int) + 1) = (k : Int) + 1 := by rw [IntKind.wrap_i64]; omega
          have q4 : (0 : Int) ≤ (k : Int) + 1 := by omega
          have q5 : (k : Int) + 1 ≤ 5 := by omega
          go_upto_region 22 with fail
          go_region_with (go_at_call 17; refine (step17 (by omega) (L5.out.1.below (Below.refl _ _).drew) SS.out HCK.out L5.out.2.2.1.drew L5.out.2.2.2 (L5.out.2.1.below (Below.refl _ _).drew) rfl).mono ?_; rintro e w9 ⟨rfl, S', im', hL9, hS9⟩; have LN := Lib.hid hL9; have SN := Lib.hid hS9; clear hL9 hS9)
          clear y0 L5 SS
          go_wp2_with fail
          go_roundw
          case rel => exact ⟨k + 1, _, _, _, by omega, by go_num, LN, SN⟩
          case measure => simp [intOf]; omega
        case inr.inr.inr =>
          have f0 : (m == 0) = false := by rw [beq_eq_false_iff_ne]; omega
          have f1 : (m == 1) = false := by rw [beq_eq_false_iff_ne]; omega
          have f2 : (m == 2) = false := by rw [beq_eq_false_iff_ne]; omega
          have f3 : (m == 3) = true := by rw [beq_iff_eq]; exact hm
          have HM0 := Lib.hid hm
          clear hm
          go_wp2_with fail
          refine (tok16 ck _ hck5.1 hck5.2).mono ?_
          rintro e W2 ⟨rfl, hb2⟩
          have L2 := Lib.hid hb2
          clear hb2 x0
          go_upto_region 20 with fail
          have L3 := Lib.hid (show LW w c l gc (gc + 1) (gc + 1 + 1) (gc + 1 + 1 + 1) gt k D S im (((W2.alloc (.cells #[.pointer none, .string (txT ck), .int .i32 0, .int .u32 0, .int .u16 0, .int .u8 (kdT ck), .int .u8 0] 47)).alloc (.cells #[.pointer none, .string (txT ck), .int .i32 0, .int .u32 0, .int .u16 0, .int .u8 (kdT ck), .int .u8 0] 47)).alloc (.cells #[] 47)) ∧ VAL imp (imp) m ck k gt (some ⟨W2.heap.size + 1 + 1, 0, none⟩) 0 0 (((W2.alloc (.cells #[.pointer none, .string (txT ck), .int .i32 0, .int .u32 0, .int .u16 0, .int .u8 (kdT ck), .int .u8 0] 47)).alloc (.cells #[.pointer none, .string (txT ck), .int .i32 0, .int .u32 0, .int .u16 0, .int .u8 (kdT ck), .int .u8 0] 47)).alloc (.cells #[] 47)) from
            ⟨(LL.out.below L2.out).below ((((Below.refl _ _).alloc (Nat.le_refl _) _).alloc (by simp) _).alloc (by simp; omega) _), .inr ⟨H3.out, by have := HM0.out; omega, rfl, .inl rfl⟩⟩)
          generalize (((W2.alloc (.cells #[.pointer none, .string (txT ck), .int .i32 0, .int .u32 0, .int .u16 0, .int .u8 (kdT ck), .int .u8 0] 47)).alloc (.cells #[.pointer none, .string (txT ck), .int .i32 0, .int .u32 0, .int .u16 0, .int .u8 (kdT ck), .int .u8 0] 47)).alloc (.cells #[] 47)) = W3 at *
          generalize W2.heap.size + 1 + 1 = gv at *
          clear L2 LL
          have y0 : W3.cell? ⟨gc + 1 + 1 + 1, k, none⟩ = some (.pointer none) := by
            have := L3.out.1.fd.cell (i := k) (j := 0) (by omega) (by omega)
            simpa using this
          have y1 : W3.frozen? ⟨gc + 1 + 1 + 1, k, none⟩ = false := L3.out.1.fd.frozen _
          have hl3 : gc + 1 + 1 + 1 < W3.heap.size := L3.out.1.fd.lt
          have ne3 : ¬ gc + 1 + 1 + 1 = W3.heap.size := by omega
          have ne4 : ¬ W3.heap.size = gc + 1 + 1 + 1 := by omega
          have q3 : (k : Int) < 5 := by omega
          go_upto_region 21 with fail
          have L4 := Lib.hid (show (Tab ((W3.setCell ⟨gc + 1 + 1 + 1, k, none⟩ (.pointer (some ⟨W3.heap.size, 0, none⟩))).alloc (.cells #[.string ⟨#[]⟩, .slice (some ⟨gv, 0, none⟩) 0 0, .int .i32 0, .int .i32 0, .int .u16 0, .bool imp] 40)) gc 48 1 4 (fun i _ => .int .u8 (c i)) ∧ Tab ((W3.setCell ⟨gc + 1 + 1 + 1, k, none⟩ (.pointer (some ⟨W3.heap.size, 0, none⟩))).alloc (.cells #[.string ⟨#[]⟩, .slice (some ⟨gv, 0, none⟩) 0 0, .int .i32 0, .int .i32 0, .int .u16 0, .bool imp] 40)) (gc + 1) 59 1 5 (fun i _ => .int .i32 (l i)) ∧
              Tab ((W3.setCell ⟨gc + 1 + 1 + 1, k, none⟩ (.pointer (some ⟨W3.heap.size, 0, none⟩))).alloc (.cells #[.string ⟨#[]⟩, .slice (some ⟨gv, 0, none⟩) 0 0, .int .i32 0, .int .i32 0, .int .u16 0, .bool imp] 40)) (gc + 1 + 1) 54 2 5 (fun i j => if i < k then #[Value.iface 25 (.pointer (some ⟨D i, 0, none⟩)), .int .i32 (l i)][j]! else #[Value.nilIface, .int .i32 0][j]!) ∧
              Tab ((W3.setCell ⟨gc + 1 + 1 + 1, k, none⟩ (.pointer (some ⟨W3.heap.size, 0, none⟩))).alloc (.cells #[.string ⟨#[]⟩, .slice (some ⟨gv, 0, none⟩) 0 0, .int .i32 0, .int .i32 0, .int .u16 0, .bool imp] 40)) (gc + 1 + 1 + 1) 60 1 5 (fun i _ => if i < k + 1 then .pointer (some ⟨if i = k then W3.heap.size else D i, 0, none⟩) else .pointer none) ∧
              Tk ((W3.setCell ⟨gc + 1 + 1 + 1, k, none⟩ (.pointer (some ⟨W3.heap.size, 0, none⟩))).alloc (.cells #[.string ⟨#[]⟩, .slice (some ⟨gv, 0, none⟩) 0 0, .int .i32 0, .int .i32 0, .int .u16 0, .bool imp] 40)) gt S im ∧ Below w.heap.size w ((W3.setCell ⟨gc + 1 + 1 + 1, k, none⟩ (.pointer (some ⟨W3.heap.size, 0, none⟩))).alloc (.cells #[.string ⟨#[]⟩, .slice (some ⟨gv, 0, none⟩) 0 0, .int .i32 0, .int .i32 0, .int .u16 0, .bool imp] 40))) ∧ VAL imp (imp) m ck k gt (some ⟨gv, 0, none⟩) 0 0 ((W3.setCell ⟨gc + 1 + 1 + 1, k, none⟩ (.pointer (some ⟨W3.heap.size, 0, none⟩))).alloc (.cells #[.string ⟨#[]⟩, .slice (some ⟨gv, 0, none⟩) 0 0, .int .i32 0, .int .i32 0, .int .u16 0, .bool imp] 40)) ∧ Blk ((W3.setCell ⟨gc + 1 + 1 + 1, k, none⟩ (.pointer (some ⟨W3.heap.size, 0, none⟩))).alloc (.cells #[.string ⟨#[]⟩, .slice (some ⟨gv, 0, none⟩) 0 0, .int .i32 0, .int .i32 0, .int .u16 0, .bool imp] 40)) W3.heap.size 40 #[.string ⟨#[]⟩, .slice (some ⟨gv, 0, none⟩) 0 0, .int .i32 0, .int .i32 0, .int .u16 0, .bool imp] ∧ gt < W3.heap.size from
            ⟨L3.out.1.decl (by omega) _, (L3.out.2.far (show gc + 1 + 1 + 1 ≤ gt by have := GT.out; omega) _).alloc _, by simpa using Blk.new (W3.setCell ⟨gc + 1 + 1 + 1, k, none⟩ (.pointer (some ⟨W3.heap.size, 0, none⟩))) 40 #[.string ⟨#[]⟩, .slice (some ⟨gv, 0, none⟩) 0 0, .int .i32 0, .int .i32 0, .int .u16 0, .bool imp], L3.out.1.ft.lt⟩)
          have F4 := Lib.hid (And.intro L3.out.1.fh L3.out.1.fn)
          generalize ((W3.setCell ⟨gc + 1 + 1 + 1, k, none⟩ (.pointer (some ⟨W3.heap.size, 0, none⟩))).alloc (.cells #[.string ⟨#[]⟩, .slice (some ⟨gv, 0, none⟩) 0 0, .int .i32 0, .int .i32 0, .int .u16 0, .bool imp] 40)) = W4 at *
          generalize W3.heap.size = dd at *
          clear y0 y1 hl3 ne3 ne4 L3
          have z0 : W4.cell? ⟨gc + 1, k, none⟩ = some (.int .i32 (l k)) := by
            have := L4.out.1.2.1.cell (i := k) (j := 0) (by omega) (by omega)
            simpa using this
          have z1 : W4.cell? ⟨gc + 1 + 1, k * 2, none⟩ = some .nilIface := by
            have := L4.out.1.2.2.1.cell (i := k) (j := 0) (by omega) (by omega)
            simpa using this
          have z2 : W4.cell? ⟨gc + 1 + 1, k * 2 + 1, none⟩ = some (.int .i32 0) := by
            have := L4.out.1.2.2.1.cell (i := k) (j := 1) (by omega) (by omega)
            simpa using this
          have z3 : W4.frozen? ⟨gc + 1 + 1, k * 2, none⟩ = false := L4.out.1.2.2.1.frozen _
          have z4 : W4.frozen? ⟨gc + 1 + 1, k * 2 + 1, none⟩ = false := L4.out.1.2.2.1.frozen _
          have y0 : W4.cell? ⟨gc + 1 + 1 + 1, k, none⟩ = some (.pointer (some ⟨dd, 0, none⟩)) := by
            have := L4.out.1.2.2.2.1.cell (i := k) (j := 0) (by omega) (by omega)
            simpa using this
          have n1 : ¬ gc + 1 + 1 = gc + 1 + 1 + 1 := by omega
          have n2 : ¬ gc + 1 = gc + 1 + 1 := by omega
          have n3 : ¬ gc + 1 + 1 + 1 = gc + 1 + 1 := by omega
          have n4 : ¬ gc + 1 + 1 = gc + 1 := by omega
          go_region
          clear z0 z1 z2 z3 z4 y0 n1 n2 n3 n4
          have L5 := Lib.hid (show LW w c l gc (gc + 1) (gc + 1 + 1) (gc + 1 + 1 + 1) gt (k + 1) (fun i => if i = k then dd else D i) S im (((W4.setCell ⟨gc + 1 + 1, k * 2, none⟩ (.iface 25 (.pointer (some ⟨dd, 0, none⟩)))).setCell ⟨gc + 1 + 1, k * 2 + 1, none⟩ (.int .i32 (l k))).drew) ∧ VAL imp (imp) m ck k gt (some ⟨gv, 0, none⟩) 0 0 (((W4.setCell ⟨gc + 1 + 1, k * 2, none⟩ (.iface 25 (.pointer (some ⟨dd, 0, none⟩)))).setCell ⟨gc + 1 + 1, k * 2 + 1, none⟩ (.int .i32 (l k))).drew) ∧ Blk (((W4.setCell ⟨gc + 1 + 1, k * 2, none⟩ (.iface 25 (.pointer (some ⟨dd, 0, none⟩)))).setCell ⟨gc + 1 + 1, k * 2 + 1, none⟩ (.int .i32 (l k))).drew) dd 40 #[.string ⟨#[]⟩, .slice (some ⟨gv, 0, none⟩) 0 0, .int .i32 0, .int .i32 0, .int .u16 0, .bool imp] ∧ dd ≠ gt from by
            obtain ⟨⟨a1, a2, a3, a4, a5, a6⟩, b, d, e⟩ := L4.out
            have g := GT.out
            exact ⟨(LW.rule (by omega) a1 a2 a3 a4 a5 a6 F4.out.1 F4.out.2).below (Below.refl _ _).drew, ((b.far (by show gc + 1 + 1 ≤ gt; omega) _).far (by show gc + 1 + 1 ≤ gt; omega) _).below (Below.refl _ _).drew, ((d.far (p := ⟨gc + 1 + 1, k * 2, none⟩) (by show dd ≠ gc + 1 + 1; omega) _).far (p := ⟨gc + 1 + 1, k * 2 + 1, none⟩) (by show dd ≠ gc + 1 + 1; omega) _).drew, by omega⟩)
          generalize (((W4.setCell ⟨gc + 1 + 1, k * 2, none⟩ (.iface 25 (.pointer (some ⟨dd, 0, none⟩)))).setCell ⟨gc + 1 + 1, k * 2 + 1, none⟩ (.int .i32 (l k))).drew) = W5 at *
          clear L4 F4
          have y0 : W5.cell? ⟨gc + 1 + 1 + 1, k, none⟩ = some (.pointer (some ⟨dd, 0, none⟩)) := by
            have := L5.out.1.fd.cell (i := k) (j := 0) (by omega) (by omega)
            simpa using this
          have w1 : IntKind.i64.wrap ((k : Int) + 1) = (k : Int) + 1 := by rw [IntKind.wrap_i64]; omega
          have q4 : (0 : Int) ≤ (k : Int) + 1 := by omega
          have q5 : (k : Int) + 1 ≤ 5 := by omega
          go_upto_region 22 with fail
          go_region_with (go_at_call 17; refine (step17 (by omega) (L5.out.1.below (Below.refl _ _).drew) SS.out HCK.out L5.out.2.2.1.drew L5.out.2.2.2 (L5.out.2.1.below (Below.refl _ _).drew) rfl).mono ?_; rintro e w9 ⟨rfl, S', im', hL9, hS9⟩; have LN := Lib.hid hL9; have SN := Lib.hid hS9; clear hL9 hS9)
          clear y0 L5 SS
          go_wp2_with fail
          go_roundw
          case rel => exact ⟨k + 1, _, _, _, by omega, by go_num, LN, SN⟩
          case measure => simp [intOf]; omega
    ·
      have hk4 : k = 4 := by omega
      have L4 := Lib.hid (show LW w c l gc (gc + 1) (gc + 1 + 1) (gc + 1 + 1 + 1) gt 4 D S im wr from hk4 ▸ LL.out)
      have S4 := Lib.hid (show ST c imp m 4 S im from hk4 ▸ SS.out)
      have q0 : ¬ (k : Int) < 4 := by omega
      clear LL SS hk4 hlt hk
      go_wp2_with fail
      go_loopw [19] (fun i wr => ∃ j : Nat, j ≤ 4 ∧ i = .int .i64 j ∧ Hid (LW w c l gc (gc + 1) (gc + 1 + 1) (gc + 1 + 1 + 1) gt 4 D S im wr)) (fun i _ => 4 - (intOf i).toNat)
      case atStart => exact ⟨0, by omega, rfl, L4⟩
      case round =>
        obtain ⟨j, hj, rfl, LJ⟩ := hrel
        clear L4
        by_cases hjt : j < 4
        · have q1 : (j : Int) < 4 := by omega
          go_upto_region 26 with fail
          go_region_with (go_at_call 8; refine (kept8 (gc + 1 + 1) (gc + 1 + 1 + 1) (gc + 1) _ _ _ _ _ _ j (D j) (l j) _ ((LJ.out.below (Below.refl _ _).drew).keeps hjt (by omega)) (by omega) (by omega) (by omega)).mono ?_; rintro e w9 ⟨rfl, hb9⟩; have LN := Lib.hid ((LJ.out.below (Below.refl _ _).drew).below hb9); clear hb9)
          clear LJ
          go_wp2_with fail
          go_roundw
          case rel => exact ⟨j + 1, by omega, by go_num, LN⟩
          case measure => simp [intOf]; omega
        · have q1 : ¬ (j : Int) < 4 := by omega
          clear hjt hj
          go_wp2_with fail
          go_loopw [20] (fun i wr => ∃ j : Nat, j ≤ 3 ∧ i = .int .i64 j ∧ Hid (LW w c l gc (gc + 1) (gc + 1 + 1) (gc + 1 + 1 + 1) gt 4 D S im wr)) (fun i _ => 3 - (intOf i).toNat)
          case atStart => exact ⟨0, by omega, rfl, LJ⟩
          case round =>
            obtain ⟨i, hi, rfl, LI⟩ := hrel
            clear LJ
            by_cases hit : i < 3
            · have q1 : (i : Int) < 3 := by omega
              go_wp2_with fail
              have f5 := fld5
              refine (first18z gt i S im _ (by omega) LI.out.ft (S4.out.four.1 i hit)).mono ?_
              rintro e w9 ⟨rfl, hb9⟩
              have LN := Lib.hid (LI.out.below hb9)
              clear hb9 LI
              go_wp2_with fail
              go_roundw
              case rel => exact ⟨i + 1, by omega, by go_num, LN⟩
              case measure => simp [intOf]; omega
            · have q1 : ¬ (i : Int) < 3 := by omega
              clear hit hi
              obtain ⟨ck, hck⟩ : ∃ ck, c 3 % 5 = ck := ⟨_, rfl⟩
              have hc5 : (c 3).tmod 5 = ck := by rw [Int.tmod_eq_emod_of_nonneg (HC.out 3 (by omega)).1]; exact hck
              have hck5 : 0 ≤ ck ∧ ck < 5 := by omega
              have HCK := Lib.hid hck
              clear hck
              by_cases hm0 : m = 0
              case' pos =>
                have f0 : (m == 0) = true := by rw [beq_iff_eq]; exact hm0
                have HF := Lib.hid (show Calls Tryd.prog 18 #[.pointer (some ⟨gt, 0, none⟩), .int .i64 3] wr _ from first18t gt S im wr LI.out.ft (txT ck) (kdT ck) (HCK.out ▸ (S4.out.four.2.1 hm0).1) (HCK.out ▸ (S4.out.four.2.1 hm0).2))
                clear hm0
                go_wp2_with fail
                refine HF.out.mono ?_
                rintro e W7 ⟨rfl, hb7⟩
                have L7 := Lib.hid (show LW w c l gc (gc + 1) (gc + 1 + 1) (gc + 1 + 1 + 1) gt 4 D S im (W7.alloc (.cells #[.pointer none, .string (txT ck), .int .i32 0, .int .u32 0, .int .u16 0, .int .u8 (kdT ck), .int .u8 0] 47)) ∧ Blk (W7.alloc (.cells #[.pointer none, .string (txT ck), .int .i32 0, .int .u32 0, .int .u16 0, .int .u8 (kdT ck), .int .u8 0] 47)) W7.heap.size 47 #[.pointer none, .string (txT ck), .int .i32 0, .int .u32 0, .int .u16 0, .int .u8 (kdT ck), .int .u8 0] from ⟨(LI.out.below hb7).below ((Below.refl _ _).alloc (Nat.le_refl _) _), Blk.new _ _ _⟩)
                clear hb7 LI HF
                go_upto_region 34 with fail
                generalize W7.alloc (.cells #[.pointer none, .string (txT ck), .int .i32 0, .int .u32 0, .int .u16 0, .int .u8 (kdT ck), .int .u8 0] 47) = W8 at *
                generalize W7.heap.size = gf at *
                have b0 : W8.cell? ⟨gf, 0, none⟩ = some (.pointer none) := L7.out.2.cell 0
                have b1 : W8.cell? ⟨gf, 1, none⟩ = some (.string (txT ck)) := L7.out.2.cell 1
                have b2 : W8.cell? ⟨gf, 2, none⟩ = some (.int .i32 0) := L7.out.2.cell 2
                have b3 : W8.cell? ⟨gf, 3, none⟩ = some (.int .u32 0) := L7.out.2.cell 3
                have b4 : W8.cell? ⟨gf, 4, none⟩ = some (.int .u16 0) := L7.out.2.cell 4
                have b5 : W8.cell? ⟨gf, 5, none⟩ = some (.int .u8 (kdT ck)) := L7.out.2.cell 5
                have b6 : W8.cell? ⟨gf, 6, none⟩ = some (.int .u8 0) := L7.out.2.cell 6
                have x0 : W8.cell? ⟨gc, 3, none⟩ = some (.int .u8 (c 3)) := L7.out.1.fc.cell (i := 3) (j := 0) (by omega) (by omega)
                go_upto_region 39 with (first
                  | (refine (same9 (txT ck) (kdT ck) ck _ hck5.1 hck5.2 rfl rfl).mono ?_; rintro e W9 ⟨rfl, hb9⟩; have L9 := Lib.hid (L7.out.1.below hb9); clear hb9))
                clear f0 b0 b1 b2 b3 b4 b5 b6 x0 L7
              case' neg =>
                have f0 : (m == 0) = false := by rw [beq_eq_false_iff_ne]; exact hm0
                have HF := Lib.hid (first18z gt 3 S im wr (by omega) LI.out.ft (S4.out.four.2.2 hm0))
                clear hm0
                go_wp2_with fail
                refine HF.out.mono ?_
                rintro e W7 ⟨rfl, hb7⟩
                have L7 := Lib.hid (show LW w c l gc (gc + 1) (gc + 1 + 1) (gc + 1 + 1 + 1) gt 4 D S im (W7.alloc (.cells #[.pointer none, .string (S 3).t, .int .i32 0, .int .u32 0, .int .u16 0, .int .u8 0, .int .u8 0] 47)) ∧ Blk (W7.alloc (.cells #[.pointer none, .string (S 3).t, .int .i32 0, .int .u32 0, .int .u16 0, .int .u8 0, .int .u8 0] 47)) W7.heap.size 47 #[.pointer none, .string (S 3).t, .int .i32 0, .int .u32 0, .int .u16 0, .int .u8 0, .int .u8 0] from ⟨(LI.out.below hb7).below ((Below.refl _ _).alloc (Nat.le_refl _) _), Blk.new _ _ _⟩)
                clear hb7 LI HF
                go_upto_region 34 with fail
                generalize W7.alloc (.cells #[.pointer none, .string (S 3).t, .int .i32 0, .int .u32 0, .int .u16 0, .int .u8 0, .int .u8 0] 47) = W8 at *
                generalize W7.heap.size = gf at *
                have b5 : W8.cell? ⟨gf, 5, none⟩ = some (.int .u8 0) := L7.out.2.cell 5
                go_upto_region 39 with fail
                have L9 := Lib.hid L7.out.1
                generalize W8 = W9 at *
                clear f0 b5 L7
              all_goals
                have x0 : W9.cell? ⟨gc, 3, none⟩ = some (.int .u8 (c 3)) := L9.out.fc.cell (i := 3) (j := 0) (by omega) (by omega)
                go_wp2_with fail
                refine (tok16 ck _ hck5.1 hck5.2).mono ?_
                rintro e W10 ⟨rfl, hb10⟩
                have L10 := Lib.hid (L9.out.below hb10)
                clear hb10 x0 L9
                have y0 : ((W10.alloc (.cells #[.pointer none, .string (txT ck), .int .i32 0, .int .u32 0, .int .u16 0, .int .u8 (kdT ck), .int .u8 0] 47)).alloc (.cells #[.string ⟨#[]⟩, .slice (some ⟨W10.heap.size, 0, none⟩) 1 1, .int .i32 0, .int .i32 0, .int .u16 0, .bool imp] 40)).cell? ⟨gc + 1 + 1 + 1, 4, none⟩ = some (.pointer none) := ((L10.out.fd.alloc _).alloc _).cell (i := 4) (j := 0) (by omega) (by omega)
                have y1 : ((W10.alloc (.cells #[.pointer none, .string (txT ck), .int .i32 0, .int .u32 0, .int .u16 0, .int .u8 (kdT ck), .int .u8 0] 47)).alloc (.cells #[.string ⟨#[]⟩, .slice (some ⟨W10.heap.size, 0, none⟩) 1 1, .int .i32 0, .int .i32 0, .int .u16 0, .bool imp] 40)).frozen? ⟨gc + 1 + 1 + 1, 4, none⟩ = false := ((L10.out.fd.alloc _).alloc _).frozen _
                go_upto_region 40 with fail
                clear y0 y1
                have L12 := Lib.hid (show (Tab (((W10.alloc (.cells #[.pointer none, .string (txT ck), .int .i32 0, .int .u32 0, .int .u16 0, .int .u8 (kdT ck), .int .u8 0] 47)).alloc (.cells #[.string ⟨#[]⟩, .slice (some ⟨W10.heap.size, 0, none⟩) 1 1, .int .i32 0, .int .i32 0, .int .u16 0, .bool imp] 40)).setCell ⟨gc + 1 + 1 + 1, 4, none⟩ (.pointer (some ⟨W10.heap.size + 1, 0, none⟩))) gc 48 1 4 (fun i _ => .int .u8 (c i)) ∧ Tab (((W10.alloc (.cells #[.pointer none, .string (txT ck), .int .i32 0, .int .u32 0, .int .u16 0, .int .u8 (kdT ck), .int .u8 0] 47)).alloc (.cells #[.string ⟨#[]⟩, .slice (some ⟨W10.heap.size, 0, none⟩) 1 1, .int .i32 0, .int .i32 0, .int .u16 0, .bool imp] 40)).setCell ⟨gc + 1 + 1 + 1, 4, none⟩ (.pointer (some ⟨W10.heap.size + 1, 0, none⟩))) (gc + 1) 59 1 5 (fun i _ => .int .i32 (l i)) ∧
                    Tab (((W10.alloc (.cells #[.pointer none, .string (txT ck), .int .i32 0, .int .u32 0, .int .u16 0, .int .u8 (kdT ck), .int .u8 0] 47)).alloc (.cells #[.string ⟨#[]⟩, .slice (some ⟨W10.heap.size, 0, none⟩) 1 1, .int .i32 0, .int .i32 0, .int .u16 0, .bool imp] 40)).setCell ⟨gc + 1 + 1 + 1, 4, none⟩ (.pointer (some ⟨W10.heap.size + 1, 0, none⟩))) (gc + 1 + 1) 54 2 5 (fun i j => if i < 4 then #[Value.iface 25 (.pointer (some ⟨D i, 0, none⟩)), .int .i32 (l i)][j]! else #[Value.nilIface, .int .i32 0][j]!) ∧
                    Tab (((W10.alloc (.cells #[.pointer none, .string (txT ck), .int .i32 0, .int .u32 0, .int .u16 0, .int .u8 (kdT ck), .int .u8 0] 47)).alloc (.cells #[.string ⟨#[]⟩, .slice (some ⟨W10.heap.size, 0, none⟩) 1 1, .int .i32 0, .int .i32 0, .int .u16 0, .bool imp] 40)).setCell ⟨gc + 1 + 1 + 1, 4, none⟩ (.pointer (some ⟨W10.heap.size + 1, 0, none⟩))) (gc + 1 + 1 + 1) 60 1 5 (fun i _ => if i < 4 + 1 then .pointer (some ⟨if i = 4 then W10.heap.size + 1 else D i, 0, none⟩) else .pointer none) ∧
                    Tk (((W10.alloc (.cells #[.pointer none, .string (txT ck), .int .i32 0, .int .u32 0, .int .u16 0, .int .u8 (kdT ck), .int .u8 0] 47)).alloc (.cells #[.string ⟨#[]⟩, .slice (some ⟨W10.heap.size, 0, none⟩) 1 1, .int .i32 0, .int .i32 0, .int .u16 0, .bool imp] 40)).setCell ⟨gc + 1 + 1 + 1, 4, none⟩ (.pointer (some ⟨W10.heap.size + 1, 0, none⟩))) gt S im ∧ Below w.heap.size w (((W10.alloc (.cells #[.pointer none, .string (txT ck), .int .i32 0, .int .u32 0, .int .u16 0, .int .u8 (kdT ck), .int .u8 0] 47)).alloc (.cells #[.string ⟨#[]⟩, .slice (some ⟨W10.heap.size, 0, none⟩) 1 1, .int .i32 0, .int .i32 0, .int .u16 0, .bool imp] 40)).setCell ⟨gc + 1 + 1 + 1, 4, none⟩ (.pointer (some ⟨W10.heap.size + 1, 0, none⟩)))) ∧ Blk (((W10.alloc (.cells #[.pointer none, .string (txT ck), .int .i32 0, .int .u32 0, .int .u16 0, .int .u8 (kdT ck), .int .u8 0] 47)).alloc (.cells #[.string ⟨#[]⟩, .slice (some ⟨W10.heap.size, 0, none⟩) 1 1, .int .i32 0, .int .i32 0, .int .u16 0, .bool imp] 40)).setCell ⟨gc + 1 + 1 + 1, 4, none⟩ (.pointer (some ⟨W10.heap.size + 1, 0, none⟩))) (W10.heap.size + 1) 40 #[.string ⟨#[]⟩, .slice (some ⟨W10.heap.size, 0, none⟩) 1 1, .int .i32 0, .int .i32 0, .int .u16 0, .bool imp] ∧ Blk (((W10.alloc (.cells #[.pointer none, .string (txT ck), .int .i32 0, .int .u32 0, .int .u16 0, .int .u8 (kdT ck), .int .u8 0] 47)).alloc (.cells #[.string ⟨#[]⟩, .slice (some ⟨W10.heap.size, 0, none⟩) 1 1, .int .i32 0, .int .i32 0, .int .u16 0, .bool imp] 40)).setCell ⟨gc + 1 + 1 + 1, 4, none⟩ (.pointer (some ⟨W10.heap.size + 1, 0, none⟩))) W10.heap.size 47 #[.pointer none, .string (txT ck), .int .i32 0, .int .u32 0, .int .u16 0, .int .u8 (kdT ck), .int .u8 0] ∧ gt < W10.heap.size from by
                  have g := L10.out.ft.lt
                  have g2 := GT.out
                  refine ⟨(L10.out.below (((Below.refl _ _).alloc (Nat.le_refl _) _).alloc (by simp) _)).put (by omega) _, ?_, ?_, g⟩
                  · exact Blk.far (by simpa using Blk.new (W10.alloc (.cells #[.pointer none, .string (txT ck), .int .i32 0, .int .u32 0, .int .u16 0, .int .u8 (kdT ck), .int .u8 0] 47)) 40 #[.string ⟨#[]⟩, .slice (some ⟨W10.heap.size, 0, none⟩) 1 1, .int .i32 0, .int .i32 0, .int .u16 0, .bool imp]) (by show W10.heap.size + 1 ≠ gc + 1 + 1 + 1; omega) _
                  · exact Blk.far (Blk.alloc (Blk.new W10 47 #[.pointer none, .string (txT ck), .int .i32 0, .int .u32 0, .int .u16 0, .int .u8 (kdT ck), .int .u8 0]) _) (by show W10.heap.size ≠ gc + 1 + 1 + 1; omega) _)
                have F4 := Lib.hid (And.intro L10.out.fh L10.out.fn)
                generalize (((W10.alloc (.cells #[.pointer none, .string (txT ck), .int .i32 0, .int .u32 0, .int .u16 0, .int .u8 (kdT ck), .int .u8 0] 47)).alloc (.cells #[.string ⟨#[]⟩, .slice (some ⟨W10.heap.size, 0, none⟩) 1 1, .int .i32 0, .int .i32 0, .int .u16 0, .bool imp] 40)).setCell ⟨gc + 1 + 1 + 1, 4, none⟩ (.pointer (some ⟨W10.heap.size + 1, 0, none⟩))) = W12 at *
                clear L10
                obtain ⟨gv, hgv⟩ : ∃ gv, W10.heap.size = gv := ⟨_, rfl⟩
                rw [hgv] at L12
                simp only [hgv]
                clear hgv
                have z0 : W12.cell? ⟨gc + 1, 4, none⟩ = some (.int .i32 (l 4)) := L12.out.1.2.1.cell (i := 4) (j := 0) (by omega) (by omega)
                have z1 : W12.cell? ⟨gc + 1 + 1, 8, none⟩ = some .nilIface := L12.out.1.2.2.1.cell (i := 4) (j := 0) (by omega) (by omega)
                have z2 : W12.cell? ⟨gc + 1 + 1, 9, none⟩ = some (.int .i32 0) := L12.out.1.2.2.1.cell (i := 4) (j := 1) (by omega) (by omega)
                have z3 : W12.frozen? ⟨gc + 1 + 1, 8, none⟩ = false := L12.out.1.2.2.1.frozen _
                have z4 : W12.frozen? ⟨gc + 1 + 1, 9, none⟩ = false := L12.out.1.2.2.1.frozen _
                have y0 : W12.cell? ⟨gc + 1 + 1 + 1, 4, none⟩ = some (.pointer (some ⟨gv + 1, 0, none⟩)) := L12.out.1.2.2.2.1.cell (i := 4) (j := 0) (by omega) (by omega)
                have n1 : ¬ gc + 1 + 1 = gc + 1 + 1 + 1 := by omega
                have n2 : ¬ gc + 1 = gc + 1 + 1 := by omega
                have n3 : ¬ gc + 1 + 1 + 1 = gc + 1 + 1 := by omega
                have n4 : ¬ gc + 1 + 1 = gc + 1 := by omega
                go_upto_region 41 with fail
                clear z0 z1 z2 z3 z4 y0 n1 n2 n3 n4
                have L13 := Lib.hid (show LW w c l gc (gc + 1) (gc + 1 + 1) (gc + 1 + 1 + 1) gt 5 (fun i => if i = 4 then gv + 1 else D i) S im ((W12.setCell ⟨gc + 1 + 1, 8, none⟩ (.iface 25 (.pointer (some ⟨gv + 1, 0, none⟩)))).setCell ⟨gc + 1 + 1, 9, none⟩ (.int .i32 (l 4))) ∧ Blk ((W12.setCell ⟨gc + 1 + 1, 8, none⟩ (.iface 25 (.pointer (some ⟨gv + 1, 0, none⟩)))).setCell ⟨gc + 1 + 1, 9, none⟩ (.int .i32 (l 4))) (gv + 1) 40 #[.string ⟨#[]⟩, .slice (some ⟨gv, 0, none⟩) 1 1, .int .i32 0, .int .i32 0, .int .u16 0, .bool imp] ∧ Blk ((W12.setCell ⟨gc + 1 + 1, 8, none⟩ (.iface 25 (.pointer (some ⟨gv + 1, 0, none⟩)))).setCell ⟨gc + 1 + 1, 9, none⟩ (.int .i32 (l 4))) gv 47 #[.pointer none, .string (txT ck), .int .i32 0, .int .u32 0, .int .u16 0, .int .u8 (kdT ck), .int .u8 0] ∧ gt < gv from by
                  obtain ⟨⟨a1, a2, a3, a4, a5, a6⟩, b, d, e⟩ := L12.out
                  have g := GT.out
                  exact ⟨LW.rule (k := 4) (by omega) a1 a2 a3 a4 a5 a6 F4.out.1 F4.out.2, (b.far (p := ⟨gc + 1 + 1, 8, none⟩) (by show gv + 1 ≠ gc + 1 + 1; omega) _).far (p := ⟨gc + 1 + 1, 9, none⟩) (by show gv + 1 ≠ gc + 1 + 1; omega) _, (d.far (p := ⟨gc + 1 + 1, 8, none⟩) (by show gv ≠ gc + 1 + 1; omega) _).far (p := ⟨gc + 1 + 1, 9, none⟩) (by show gv ≠ gc + 1 + 1; omega) _, e⟩)
                generalize ((W12.setCell ⟨gc + 1 + 1, 8, none⟩ (.iface 25 (.pointer (some ⟨gv + 1, 0, none⟩)))).setCell ⟨gc + 1 + 1, 9, none⟩ (.int .i32 (l 4))) = W13 at *
                clear L12 F4
                have y0 : W13.cell? ⟨gc + 1 + 1 + 1, 4, none⟩ = some (.pointer (some ⟨gv + 1, 0, none⟩)) := L13.out.1.fd.cell (i := 4) (j := 0) (by omega) (by omega)
                have F17 := Lib.hid (fun (cp : Nat) => fifth17 (n := 5) (cp := cp) (A := some ⟨gc + 1 + 1, 0, none⟩) (mw := mw) (L13.out.1.below (Below.refl _ _).drew) S4.out L13.out.2.1.drew (show gv + 1 ≠ gt by have := L13.out.2.2.2; omega) L13.out.2.2.2 (Nat.le_refl _) L13.out.2.2.1.drew rfl)
                go_region_with (go_at_call 17; refine (F17.out _).mono ?_; rintro e w9 ⟨rfl, S', im', hL9⟩; have LN := Lib.hid hL9; clear hL9)
                clear y0 L13 F17 S4
                generalize (fun i => if i = 4 then gv + 1 else D i) = D5 at *
                go_wp2_with fail
                go_loopw [22] (fun i wr => ∃ j : Nat, j ≤ 5 ∧ i = .int .i64 j ∧ Hid (LW w c l gc (gc + 1) (gc + 1 + 1) (gc + 1 + 1 + 1) gt 5 D5 S' im' wr)) (fun i _ => 5 - (intOf i).toNat)
                case atStart => exact ⟨0, by omega, rfl, LN⟩
                case round =>
                  obtain ⟨jj, hj, rfl, LJ⟩ := hrel
                  clear LN
                  by_cases hjt : jj < 5
                  · have q1 : (jj : Int) < 5 := by omega
                    go_upto_region 45 with fail
                    go_region_with (go_at_call 8; refine (kept8 (gc + 1 + 1) (gc + 1 + 1 + 1) (gc + 1) _ _ _ _ _ _ jj (D5 jj) (l jj) _ ((LJ.out.below (Below.refl _ _).drew).keeps hjt (by omega)) (by omega) (by omega) (by omega)).mono ?_; rintro e w9 ⟨rfl, hb9⟩; have LN := Lib.hid ((LJ.out.below (Below.refl _ _).drew).below hb9); clear hb9)
                    clear LJ
                    go_wp2_with fail
                    go_roundw
                    case rel => exact ⟨jj + 1, by omega, by go_num, LN⟩
                    case measure => simp [intOf]; omega
                  · have q1 : ¬ (jj : Int) < 5 := by omega
                    go_wp2_with fail
                    go_ret
                    exact ⟨rfl, hgc ▸ LJ.out.fb⟩

end Go.Proofs.YtnolnlekdlfeaaaDoor.ZT
