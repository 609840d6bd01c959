/- symbolForName, walked. -/
import Derived.Test.YtmfpgnedeonmiaaDoorSx
import Derived.Outline
import Derived.Handy
import Derived.Deep.QuietTactic
import Derived.BigQuiet
import Derived.LoopTactic
import Derived.RegionTactic
import Derived.BigRegion
import Derived.Deep.Cut
import Derived.Deep.DeepCutAuto
import Derived.Deep.RegionHeld3
import Derived.IntWalk
import Derived.Deep.RegionLaw
import Derived.Deep.DrawnRows
namespace Go.Proofs.YtmfpgnedeonmiaaDoor.SY
open Go Go.RowKit Go.Lib Go.Proofs.YtmfpgnedeonmiaaDoor.MP
set_option linter.unusedVariables false
attribute [local go_sem ↓] Go.wp_at_zero Go.wp_at_succ
set_option maxRecDepth 100000 in
set_option maxHeartbeats 4000000 in
theorem sym_new_g (X : Nat → Prop) (w : World) (B pb mb : Nat) (L : List Ent) (f : Nat → Value) (sv lv : Value) (nm : ByteArray) (loc : Int) (h : PS X w B pb mb false L L [] f sv lv) (hn : ∀ e ∈ L, e.nm ≠ nm) (hX : ∀ g, w.heap.size ≤ g → X g) (hL : L.length ≤ 16777216) :
    Calls Tryd.prog 29 #[.pointer (some ⟨pb, 0, none⟩), .agg #[.int .i32 loc], .string nm] w (SymP X w B pb mb false (L ++ [⟨nm, loc, 1⟩]) loc L.length) := by
  obtain ⟨iS, hiS, hzS0, hzS1, hzS2⟩ := info_parts infoS
  obtain ⟨iL, hiL, hzL0, hzL1, hzL2⟩ := info_parts infoL
  have HP := Lib.hid h
  have HX := Lib.hid hX
  clear hX
  have hpl := h.par.lt
  have c54 : w.cell? ⟨pb, 54, none⟩ = some (.bool false) := by rw [h.par.cell (by omega), h.f54]
  have c24 : w.cell? ⟨pb, 25, none⟩ = some (.map (some mb)) := by rw [h.par.cell (by omega)]; exact congrArg some h.fsc
  have c15 : w.cell? ⟨pb, 15, none⟩ = some (.int .u32 0) := by rw [h.par.cell (by omega), h.f15]
  obtain ⟨a0, cp0, hsv⟩ : ∃ a c, sv = .slice a L.length c := by
    rcases h.sy.2 with ⟨h1, h2⟩ | ⟨g, cap, cur, h1, -⟩
    · exact ⟨none, 0, by rw [h1, h2]⟩
    · exact ⟨_, _, h1⟩
  have c21 : w.cell? ⟨pb, 21, none⟩ = some (.slice a0 L.length cp0) := by rw [h.par.cell (by omega), h.f21, hsv]
  have hlk := fun (o1 o2 : Obj) => ((h.sm.alloc o1).alloc o2).look_no (P := Tryd.prog) (t := 54) Tryd.underlying54 Tryd.underlying9 (zeroL _) (look_none L nm 0 hn)
  clear h
  subst hsv
  have q1 : pb ≠ w.heap.size := by omega
  have q2 : pb ≠ w.heap.size + 1 := by omega
  have q3 : pb ≠ w.heap.size + 1 + 1 := by omega
  have q4 : w.heap.size ≠ pb := by omega
  go_enter Tryd.func29, Tryd.ntmps29
  go_wp2_with fail
  have hn0 : (0 : Int) ≤ (L.length : Int) := by omega
  have hn1 : (L.length : Int) ≤ 4294967295 := by omega
  have hwr : IntKind.u32.wrap (L.length : Int) = (L.length : Int) := wrapU32 _ hn0 hn1
  go_region_held3 (fun w' => w'.cell? ⟨w.heap.size, 0, none⟩ = some (.int .i32 loc) ∧ w'.cell? ⟨pb, 15, none⟩ = some (.int .u32 0) ∧ w'.cell? ⟨pb, 21, none⟩ = some (.slice a0 L.length cp0)) (simp (maxDischargeDepth := 8) [*, World.cell?_alloc_some]) (fail)
  go_wp2_with fail
  generalize hW : (((w.alloc (Obj.cells #[Value.int IntKind.i32 loc] 43)).alloc (Obj.cells #[Value.int IntKind.i32 0, Value.int IntKind.u32 0, Value.int IntKind.u32 0] TL)).alloc (Obj.cells #[Value.int IntKind.i32 loc, Value.int IntKind.u32 0, Value.int IntKind.u32 L.length] TL)).drew = W
  have HP1 : Hid (PS X W B pb mb false L L [] f (.slice a0 L.length cp0) lv) := by rw [← hW]; exact Lib.hid ((((HP.out.alloc _).alloc _).alloc _).drewN 1)
  have HM : Hid (Mid X w W B loc L.length) := by rw [← hW]; exact Lib.hid (mid0 w B _ loc L.length HP.out.base HX.out)
  have hW3 : w.heap.size < W.heap.size := by have := lt_of_some HM.out.x1; omega
  have HLV := Lib.hid (fun g hv => (HP.out.lc.lt g hv).2)
  clear hW HP hlk c54 c24 c15 c21 hwr
  go_cut [55] (fun _ wx => Hid (∃ f' g cp, PS X wx B pb mb false L (L ++ [⟨nm, loc, 0⟩]) [] f' (.slice (some ⟨g, 0, none⟩) (L.length + 1) cp) lv ∧ Mid X w wx B loc L.length))
  case first =>
    have P1 := HP1.out
    have d21 : W.cell? ⟨pb, 21, none⟩ = some (.slice a0 L.length cp0) := by rw [P1.par.cell (by omega), P1.f21]
    have dg0 := P1.g0
    have dg1 := P1.g1
    have d21f := P1.par.frozen 21
    have hpl' : pb < W.heap.size := P1.par.lt
    have hBW : B ≤ W.heap.size := P1.base
    have r1 : pb ≠ W.heap.size := by omega
    have r2 : W.heap.size ≠ pb := by omega
    have n1 : (Value.slice a0 L.length cp0).ownBlock ≠ some pb := own_type P1.par P1.sy (by decide)
    clear P1
    go_region_law
      ((refine step_append_lies _ (by rfl) _ _ _ (by rfl) B TS iS _ 10 48 Tryd.underlying77 hiS hzS0 hzS1 hzS2 rfl (by omega) (.slice a0 L.length cp0) L.length (syms 25 L) (by rfl) ((HP1.out.sy.alloc _))
          ⟨W.heap.size, 0, none⟩ 1 1 (symc 25 ⟨nm, loc, 0⟩) (by rfl) (by rfl) (World.news_of_block (cs := (symc 25 ⟨nm, loc, 0⟩).toArray) (t := TS) (fr := (0, 0)) (heap_alloc_new W _)) (by simp [symc, Value.oneCell'])
          (by omega) (by unfold maxLen; omega) (by omega) (by simp; omega) (W.heap.size + 1) (by simp) ?_; intro gg cap w1 hown1 hgrow hat hlt
        have hbk : w1.heap[pb]? = W.heap[pb]? := (hgrow.block pb (by simp; omega) (Ne.symm n1)).trans (Below.heap_alloc W _ pb hpl')
        have e21 : w1.cell? ⟨pb, 21, none⟩ = some (.slice a0 L.length cp0) := (World.cell?_of_block (w := W) hbk).trans d21
        have e21f : w1.frozen? ⟨pb, 21, none⟩ = false := (World.frozen?_of_block (w := W) hbk).trans d21f
        clear hbk))
    all_goals (go_wp2_with fail; go_meet; exact Lib.hid ⟨_, _, _, (HP1.out.alloc _).sym_app ⟨nm, loc, 0⟩ (grown_drew hgrow) hown1 (HM.out.new hat (by omega) HP1.out.xs), HM.out.app HP1.out HP1.out.sy (.inl rfl) (fun g hv => own_far HP1.out.sy HM.out hv) HP1.out.xs (grown_drew hgrow) 21 _⟩)
  case rest =>
    obtain ⟨f2, g2, cp2, P2, M2⟩ := hcut.out
    have HP2 := Lib.hid P2
    have HM2 := Lib.hid M2
    have z0 := cell3_0 M2.x2
    have z1 := cell3_1 M2.x2
    have z2 := cell3_2 M2.x2
    have hmu := P2.sm.put (P := Tryd.prog) (t := 54) Tryd.underlying54 Tryd.underlying9 (.agg #[.int .i32 loc, .int .u32 0, .int .u32 (L.length : Int)]) (look_none L nm 0 hn)
    clear P2 M2 hcut HP1 HM
    go_wp2_with fail
    generalize hW2 : putM _ mb (mapl L 0 ++ [(nm, Value.agg #[Value.int IntKind.i32 loc, Value.int IntKind.u32 0, Value.int IntKind.u32 (L.length : Int)])]) = W2
    have HP4 : Hid (PS X W2 B pb mb false (L ++ [⟨nm, loc, 1⟩]) (L ++ [⟨nm, loc, 0⟩]) [] f2 (.slice (some ⟨g2, 0, none⟩) (L.length + 1) cp2) lv) := by rw [← hW2]; exact Lib.hid (HP2.out.map_put ⟨nm, loc, 1⟩)
    have HM4 : Hid (Mid X w W2 B loc L.length) := by rw [← hW2]; exact Lib.hid (HM2.out.put HP2.out _)
    have HL4 : Hid (lv.ownBlock ≠ some (w.heap.size + 1)) := Lib.hid (fun e => by have := HLV.out _ e; omega)
    clear hW2 HP2 HM2 hmu z0 z1 z2
    obtain ⟨W4, hW4⟩ : ∃ W4, W4 = W2 := ⟨_, rfl⟩
    subst hW4
    go_cut [83] (fun _ wx => Hid (∃ f5 sv5 lv5, PS X wx B pb mb false (L ++ [⟨nm, loc, 1⟩]) (L ++ [⟨nm, loc, 1⟩]) [] f5 sv5 lv5 ∧ Mid X w wx B loc L.length ∧ lv5.ownBlock ≠ some (w.heap.size + 1)))
    case first =>
      have hw1 : IntKind.i64.wrap (L.length : Int) = (L.length : Int) := IntWalk.i64_in _ (by omega)
      have P4 := HP4.out
      have M4 := HM4.out
      have d21 : W4.cell? ⟨pb, 21, none⟩ = some (.slice (some ⟨g2, 0, none⟩) (L.length + 1) cp2) := by rw [P4.par.cell (by omega), P4.f21]
      have y2 := cell3_2 M4.x2
      have sy4 := P4.sy
      have hll : (L ++ [(⟨nm, loc, 0⟩ : Ent)]).length = L.length + 1 := by simp
      rw [hll] at sy4
      have dus : W4.cell? ⟨g2, L.length * 10 + 4, none⟩ = some (.int .u32 0) := by
        rw [sy4.cellAt (L.length * 10 + 4) (by omega), syms_at _ _ _ _ (by omega) (by omega)]
        simp [symc]
      have duf : W4.frozen? ⟨g2, L.length * 10 + 4, none⟩ = false := sy4.frozenAt _
      have k1 : (0 : Int) ≤ (L.length : Int) := by omega
      have k2 : (L.length : Int) < (L.length : Int) + 1 := by omega
      have k3 : ((L.length : Int)).toNat = L.length := by omega
      clear P4 M4 sy4 hll
      go_region_law (fail)
      all_goals (go_wp2_with fail; go_meet; exact Lib.hid ⟨_, _, _, (HP4.out.drewN 1).use_last, (HM4.out.drewN 1).use (HP4.out.drewN 1) _ _, HL4.out⟩)
    case rest =>
      obtain ⟨f5, sv5, lv5, P5, M5, hl5⟩ := hcut.out
      have y0 := cell3_0 M5.x2
      have y1 := cell3_1 M5.x2
      have y2 := cell3_2 M5.x2
      have v0 := cell3_0 M5.x1
      have v1 := cell3_1 M5.x1
      have v2 := cell3_2 M5.x1
      have v0f := froz3 (j := 0) M5.x1
      have v1f := froz3 (j := 1) M5.x1
      have v2f := froz3 (j := 2) M5.x1
      have HP5 := Lib.hid P5
      have HM5 := Lib.hid M5
      have HL5 := Lib.hid hl5
      clear hl5
      clear P5 M5 hcut HP4 HM4
      go_wp2_with fail
      refine bodyPost_ret (v := .agg #[.int .i32 loc, .int .u32 0, .int .u32 (L.length : Int)]) (by simp [results, Tryd.results29, go_sem, *]) rfl ⟨rfl, ?_⟩
      exact finish HP5.out HM5.out HL5.out _ _ _
end Go.Proofs.YtmfpgnedeonmiaaDoor.SY
