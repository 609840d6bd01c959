/- symbolForName, walked. -/
import Derived.Test.YtmfpgnedeonmiaaDoorSx
import Derived.Outline
import Derived.Handy
import Derived.Deep.QuietTactic
import Derived.BigQuiet
import Derived.LoopTactic
import Derived.RegionTactic
import Derived.BigRegion
import Derived.Deep.Cut
import Derived.Deep.DeepCutAuto
import Derived.Deep.RegionHeld3
import Derived.IntWalk
import Derived.Deep.RegionLaw
import Derived.Deep.DrawnRows
namespace Go.Proofs.YtmfpgnedeonmiaaDoor.SY
open Go Go.RowKit Go.Lib Go.Proofs.YtmfpgnedeonmiaaDoor.MP
set_option linter.unusedVariables false
attribute [local go_sem ↓] Go.wp_at_zero Go.wp_at_succ
set_option maxRecDepth 100000 in
set_option maxHeartbeats 4000000 in
theorem sym_old_g (X : Nat → Prop) (w : World) (B pb mb : Nat) (L : List Ent) (f : Nat → Value) (sv lv : Value) (nm : ByteArray) (loc : Int) (i : Nat) (e0 : Ent) (h : PS X w B pb mb false L L (if false then L else []) f sv lv) (hi : L[i]? = some e0) (he : e0.nm = nm) (hf : ∀ j e', j < i → L[j]? = some e' → e'.nm ≠ nm) (hX : ∀ g, w.heap.size ≤ g → X g) (hL : L.length ≤ 16777216) (hu : e0.uses ≤ 16777216) :
    Calls Tryd.prog 29 #[.pointer (some ⟨pb, 0, none⟩), .agg #[.int .i32 loc], .string nm] w (SymP X w B pb mb false (L.set i { e0 with uses := e0.uses + 1 }) e0.loc i) := by
  have hil : i < L.length := (List.getElem?_eq_some_iff.1 hi).1
  have HP := Lib.hid h
  have HX := Lib.hid hX
  clear hX
  have hpl := h.par.lt
  have c54 : w.cell? ⟨pb, 54, none⟩ = some (.bool false) := by rw [h.par.cell (by omega), h.f54]
  have c24 : w.cell? ⟨pb, 25, none⟩ = some (.map (some mb)) := by rw [h.par.cell (by omega)]; exact congrArg some h.fsc
  obtain ⟨g2, cp2, hsv, -, -⟩ := h.sy.form (by omega)
  have hlk := fun (o1 o2 : Obj) => ((h.sm.alloc o1).alloc o2).look_yes (P := Tryd.prog) (t := 54) Tryd.underlying54 Tryd.underlying9 (look_first L nm 0 i e0 hi he hf)
  simp only [locc, Nat.zero_add] at hlk
  clear h
  subst hsv
  go_enter Tryd.func29, Tryd.ntmps29
  go_wp2_with fail
  generalize hW : (((w.alloc (Obj.cells #[Value.int IntKind.i32 loc] 43)).alloc (Obj.cells #[Value.int IntKind.i32 0, Value.int IntKind.u32 0, Value.int IntKind.u32 0] TL)).alloc (Obj.cells #[Value.int IntKind.i32 e0.loc, Value.int IntKind.u32 0, Value.int IntKind.u32 (i : Int)] TL)) = W4
  have HP4 : Hid (PS X W4 B pb mb false L L (if false then L else []) f (.slice (some ⟨g2, 0, none⟩) L.length cp2) lv) := by rw [← hW]; exact Lib.hid (((HP.out.alloc _).alloc _).alloc _)
  have HM4 : Hid (Mid X w W4 B e0.loc i) := by rw [← hW]; exact Lib.hid (mid1 w B _ _ e0.loc i HP.out.base HX.out)
  have HL4 : Hid (lv.ownBlock ≠ some (w.heap.size + 1)) := Lib.hid (fun e => by have := (HP.out.lc.lt _ e).2; omega)
  clear hW HP hlk c54 c24
  go_cut [83] (fun _ wx => Hid (∃ f5 sv5 lv5, PS X wx B pb mb false (L.set i { e0 with uses := e0.uses + 1 }) (L.set i { e0 with uses := e0.uses + 1 }) (if false then L.set i { e0 with uses := e0.uses + 1 } else []) f5 sv5 lv5 ∧ Mid X w wx B e0.loc i ∧ lv5.ownBlock ≠ some (w.heap.size + 1)))
  case first =>
    have hw1 : IntKind.i64.wrap (i : Int) = (i : Int) := IntWalk.i64_in _ (by omega)
    have hw2 : IntKind.u32.wrap ((e0.uses : Int) + 1) = (e0.uses : Int) + 1 := IntWalk.u32_in _ (by omega)
    have P4 := HP4.out
    have M4 := HM4.out
    have d21 : W4.cell? ⟨pb, 21, none⟩ = some (.slice (some ⟨g2, 0, none⟩) L.length cp2) := by rw [P4.par.cell (by omega), P4.f21]
    have y2 := cell3_2 M4.x2
    have sy4 := P4.sy
    have dus : W4.cell? ⟨g2, i * 10 + 4, none⟩ = some (.int .u32 (e0.uses : Int)) := by
      rw [sy4.cellAt (i * 10 + 4) (by omega), syms_at _ _ _ _ hil (by omega)]
      have : L[i] = e0 := (List.getElem?_eq_some_iff.1 hi).2
      rw [this]
      rfl
    have duf : W4.frozen? ⟨g2, i * 10 + 4, none⟩ = false := sy4.frozenAt _
    have k1 : (0 : Int) ≤ (i : Int) := by omega
    have k2 : (i : Int) < (L.length : Int) := by omega
    have k3 : ((i : Int)).toNat = i := by omega
    have HI := Lib.hid hi
    clear P4 M4 sy4 hi hf he
    go_region_law (fail)
    all_goals (go_wp2_with fail; go_meet; exact Lib.hid ⟨_, _, _, (HP4.out.drewN 1).use_one HI.out, (HM4.out.drewN 1).use (HP4.out.drewN 1) _ _, HL4.out⟩)
  case rest =>
    obtain ⟨f5, sv5, lv5, P5, M5, hl5⟩ := hcut.out
    have y0 := cell3_0 M5.x2
    have y1 := cell3_1 M5.x2
    have y2 := cell3_2 M5.x2
    have v0 := cell3_0 M5.x1
    have v1 := cell3_1 M5.x1
    have v2 := cell3_2 M5.x1
    have v0f := froz3 (j := 0) M5.x1
    have v1f := froz3 (j := 1) M5.x1
    have v2f := froz3 (j := 2) M5.x1
    have HP5 := Lib.hid P5
    have HM5 := Lib.hid M5
    have HL5 := Lib.hid hl5
    clear hl5 P5 M5 hcut HP4 HM4 hi he hf
    go_wp2_with fail
    refine bodyPost_ret (v := .agg #[.int .i32 e0.loc, .int .u32 0, .int .u32 (i : Int)]) (by simp [results, Tryd.results29, go_sem, *]) rfl ⟨rfl, ?_⟩
    exact finish HP5.out HM5.out HL5.out _ _ _
end Go.Proofs.YtmfpgnedeonmiaaDoor.SY
