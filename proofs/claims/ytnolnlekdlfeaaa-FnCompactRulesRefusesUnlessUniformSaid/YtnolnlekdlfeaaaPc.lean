/- FnCompactRulesRefusesUnlessUniform: the tracker, the rules, the look at the declaration. -/
import Derived.Test.YtnolnlekdlfeaaaPb
namespace Go.Proofs.Ytnolnlekdlfeaaa.ZT
open Go.RowKit Go.Proofs.Ytnolnlekdlfeaaa.TB
set_option linter.unusedVariables false
def L73 (S : Nat → Cn) (im : Bool) : List Value := cl (S 0) ++ cl (S 1) ++ cl (S 2) ++ cl (S 3) ++ [.bool im]
theorem Tk.new {w : World} {g : Nat} {S : Nat → Cn} {im : Bool} (h : Blk w g 70 (L73 S im).toArray) : Tk w g S im := by
  refine ⟨_, h, rfl, fun i j hi hj => ?_⟩
  obtain rfl : i = 0 := by omega
  rw [Nat.zero_mul, Nat.zero_add, List.getElem?_toArray]
  have hlen : ∀ x : Cn, (cl x).length = 18 := cl_len
  have hg : ∀ (x : Cn) (d : Nat), d < 18 → (cl x)[d]? = some ((cl x)[d]?.getD undef) := fun x d hd => by
    rw [List.getElem?_eq_getElem (by rw [hlen]; exact hd)]; rfl
  show (L73 S im)[j]? = some (tf S im j)
  unfold L73 tf
  rcases (by omega : j < 18 ∨ (18 ≤ j ∧ j < 36) ∨ (36 ≤ j ∧ j < 54) ∨ (54 ≤ j ∧ j < 72) ∨ j = 72) with q | q | q | q | q
  · rw [if_pos (by omega), List.getElem?_append_left (by simp [hlen]; omega), List.getElem?_append_left (by simp [hlen]; omega), List.getElem?_append_left (by simp [hlen]; omega), List.getElem?_append_left (by simp [hlen]; omega)]
    rw [show j / 18 = 0 by omega, show j % 18 = j by omega]
    exact hg _ _ q
  · rw [if_pos (by omega), List.getElem?_append_left (by simp [hlen]; omega), List.getElem?_append_left (by simp [hlen]; omega), List.getElem?_append_left (by simp [hlen]; omega), List.getElem?_append_right (by simp [hlen]; omega), hlen]
    rw [show j / 18 = 1 by omega, show j % 18 = j - 18 by omega]
    exact hg _ _ (by omega)
  · rw [if_pos (by omega), List.getElem?_append_left (by simp [hlen]; omega), List.getElem?_append_left (by simp [hlen]; omega), List.getElem?_append_right (by simp [hlen]; omega), List.length_append, hlen, hlen]
    rw [show j / 18 = 2 by omega, show j % 18 = j - (18 + 18) by omega]
    exact hg _ _ (by omega)
  · rw [if_pos (by omega), List.getElem?_append_left (by simp [hlen]; omega), List.getElem?_append_right (by simp [hlen]; omega), List.length_append, List.length_append, hlen, hlen, hlen]
    rw [show j / 18 = 3 by omega, show j % 18 = j - (18 + 18 + 18) by omega]
    exact hg _ _ (by omega)
  · subst q
    rfl
theorem bld47 (a b c d : Cn) (W : World) : (Instr.build 47 #[(0, .agg (cl a).toArray), (1, .agg (cl b).toArray), (2, .agg (cl c).toArray), (3, .agg (cl d).toArray)]).run Try.prog W = .ok (.agg (cl a ++ cl b ++ cl c ++ cl d).toArray) W := by kernel_rfl
theorem bld70 (a b c d : Cn) (im : Bool) (W : World) : (Instr.build 70 #[(0, .agg (cl a ++ cl b ++ cl c ++ cl d).toArray), (1, .bool im)]).run Try.prog W = .ok (.agg (cl a ++ cl b ++ cl c ++ cl d ++ [Value.bool im]).toArray) W := by kernel_rfl
theorem wpList_build {P : Program} {ops : Array Oper} {rest : List Oper} {op : Oper} {a : Act} {w : World} {Q : Exit → Act → World → Prop} (hgd : op.guard = none) (t : TypeId) (parts : Array (Nat × Operand)) (ho : op.op = .build t parts)
    (ps : Array (Nat × Value)) (hp : (parts.map fun (i, x) => (i, a.eval x)) = ps) (v : Value) (hr : (Instr.build t ps).run P w = .ok v w)
    (h : wpList P ops Q rest (a.put op.dst v) w) : wpList P ops Q (op :: rest) a w :=
  wpList_plain hgd fun K hK => by
    unfold Oper.wp execOp
    simp only [ho, hp, Sem.run_bind, hr, Result.andThen_ok, Sem.run_pure]
    exact hK _ _ h
theorem wpList_move {P : Program} {ops : Array Oper} {rest : List Oper} {op : Oper} {a : Act} {w : World} {Q : Exit → Act → World → Prop} (hgd : op.guard = none) (x : Operand) (ho : op.op = .move x)
    (v : Value) (hx : a.eval x = v) (h : wpList P ops Q rest (a.put op.dst v) w) : wpList P ops Q (op :: rest) a w :=
  wpList_plain hgd fun K hK => by
    unfold Oper.wp execOp
    simp only [ho, hx, Sem.run_pure]
    exact hK _ _ h
set_option maxRecDepth 100000 in
set_option maxHeartbeats 2000000 in
theorem tracker10 (S : Nat → Cn) (im : Bool) (w : World) : Calls Try.prog 10 #[.agg (cl (S 0)).toArray, .agg (cl (S 1)).toArray, .agg (cl (S 2)).toArray, .agg (cl (S 3)).toArray, .bool im] w fun e w' =>
    ∃ g, e = .returned (.pointer (some ⟨g, 0, none⟩)) ∧ Tk w' g S im ∧ Below w.heap.size w w' ∧ w.heap.size ≤ g := by
  obtain ⟨W4, hW4⟩ : ∃ W4, W4 = (((w.alloc (.cells (cl (S 0)).toArray 46)).alloc (.cells (cl (S 1)).toArray 46)).alloc (.cells (cl (S 2)).toArray 46)).alloc (.cells (cl (S 3)).toArray 46) := ⟨_, rfl⟩
  have F := Lib.hid (show Blk W4 w.heap.size 46 (cl (S 0)).toArray ∧ Blk W4 (w.heap.size + 1) 46 (cl (S 1)).toArray ∧ Blk W4 (w.heap.size + 1 + 1) 46 (cl (S 2)).toArray ∧ Blk W4 (w.heap.size + 1 + 1 + 1) 46 (cl (S 3)).toArray ∧ Below w.heap.size w W4 ∧ W4.heap.size = w.heap.size + 1 + 1 + 1 + 1 from by
    rw [hW4]
    refine ⟨(((Blk.new _ _ _).alloc _).alloc _).alloc _, (Blk.alloc (by simpa using Blk.new (w.alloc (.cells (cl (S 0)).toArray 46)) 46 (cl (S 1)).toArray) _).alloc _, Blk.alloc (by simpa using Blk.new ((w.alloc (.cells (cl (S 0)).toArray 46)).alloc (.cells (cl (S 1)).toArray 46)) 46 (cl (S 2)).toArray) _, by simpa using Blk.new (((w.alloc (.cells (cl (S 0)).toArray 46)).alloc (.cells (cl (S 1)).toArray 46)).alloc (.cells (cl (S 2)).toArray 46)) 46 (cl (S 3)).toArray, ((((Below.refl _ _).alloc (Nat.le_refl _) _).alloc (by simp) _).alloc (by simp; omega) _).alloc (by simp; omega) _, by simp⟩)
  have R : ∀ (g : Nat) (x : Cn), Blk W4 g 46 (cl x).toArray → W4.rangeAt g 0 (cl x) := fun g x h j v hj => by
    rw [Nat.zero_add, h.cell]; simpa using hj
  have N := Lib.hid (show ∀ L : List Value, L = L73 S im → Tk (W4.alloc (.cells L.toArray 70)) (w.heap.size + 1 + 1 + 1 + 1) S im ∧ Below w.heap.size w (W4.alloc (.cells L.toArray 70)) from fun L hL => by
    subst hL
    have h := Blk.new W4 70 (L73 S im).toArray
    rw [F.out.2.2.2.2.2] at h
    exact ⟨Tk.new h, F.out.2.2.2.2.1.alloc F.out.2.2.2.2.1.size _⟩)
  have hsz : W4.heap.size = w.heap.size + 1 + 1 + 1 + 1 := F.out.2.2.2.2.2
  obtain ⟨C0, h0⟩ : ∃ C, C = cl (S 0) := ⟨_, rfl⟩
  obtain ⟨C1, h1⟩ : ∃ C, C = cl (S 1) := ⟨_, rfl⟩
  obtain ⟨C2, h2⟩ : ∃ C, C = cl (S 2) := ⟨_, rfl⟩
  obtain ⟨C3, h3⟩ : ∃ C, C = cl (S 3) := ⟨_, rfl⟩
  obtain ⟨L, hL⟩ : ∃ L, L = L73 S im := ⟨_, rfl⟩
  obtain ⟨M, hM⟩ : ∃ M, M = cl (S 0) ++ cl (S 1) ++ cl (S 2) ++ cl (S 3) := ⟨_, rfl⟩
  have r0 : W4.rangeAt w.heap.size 0 C0 := by rw [h0]; exact R _ _ F.out.1
  have r1 : W4.rangeAt (w.heap.size + 1) 0 C1 := by rw [h1]; exact R _ _ F.out.2.1
  have r2 : W4.rangeAt (w.heap.size + 1 + 1) 0 C2 := by rw [h2]; exact R _ _ F.out.2.2.1
  have r3 : W4.rangeAt (w.heap.size + 1 + 1 + 1) 0 C3 := by rw [h3]; exact R _ _ F.out.2.2.2.1
  have b47 : ∀ W : World, (Instr.build 47 #[(0, .agg C0.toArray), (1, .agg C1.toArray), (2, .agg C2.toArray), (3, .agg C3.toArray)]).run Try.prog W = .ok (.agg M.toArray) W := fun W => by rw [h0, h1, h2, h3, hM]; exact bld47 _ _ _ _ W
  have b70 : ∀ W : World, (Instr.build 70 #[(0, .agg M.toArray), (1, .bool im)]).run Try.prog W = .ok (.agg L.toArray) W := fun W => by rw [hM, hL]; exact bld70 _ _ _ _ im W
  have i0 : (Try.prog.info? 46).map (·.size) = some C0.length := by rw [h0]; kernel_rfl
  have i1 : (Try.prog.info? 46).map (·.size) = some C1.length := by rw [h1]; kernel_rfl
  have i2 : (Try.prog.info? 46).map (·.size) = some C2.length := by rw [h2]; kernel_rfl
  have i3 : (Try.prog.info? 46).map (·.size) = some C3.length := by rw [h3]; kernel_rfl
  have NN := Lib.hid (N.out L hL)
  rw [← h0, ← h1, ← h2, ← h3] at hW4 ⊢
  clear F R N h0 h1 h2 h3 hL hM
  go_enter Try.func10, Try.ntmps10
  go_upto_region 1 with fail
  rw [← hW4]
  clear hW4
  refine wp_region_lit ?_
  refine wpList_load_mid rfl 46 _ rfl w.heap.size 0 rfl C0 _ r0 Try.underlying46 rfl i0 ?_
  refine wpList_load_mid rfl 46 _ rfl (w.heap.size + 1) 0 rfl C1 _ r1 Try.underlying46 rfl i1 ?_
  refine wpList_load_mid rfl 46 _ rfl (w.heap.size + 1 + 1) 0 rfl C2 _ r2 Try.underlying46 rfl i2 ?_
  refine wpList_load_mid rfl 46 _ rfl (w.heap.size + 1 + 1 + 1) 0 rfl C3 _ r3 Try.underlying46 rfl i3 ?_
  refine wpList_build rfl 47 _ rfl #[(0, .agg C0.toArray), (1, .agg C1.toArray), (2, .agg C2.toArray), (3, .agg C3.toArray)] (by first | kernel_rfl | (simp [go_sem]; done)) (.agg M.toArray) (b47 _) ?_
  refine wpList_move rfl _ rfl (.bool im) rfl ?_
  refine wpList_build rfl 70 _ rfl #[(0, .agg M.toArray), (1, .bool im)] (by first | kernel_rfl | (simp [go_sem]; done)) (.agg L.toArray) (b70 _) ?_
  clear b47 b70 r0 r1 r2 r3 i0 i1 i2 i3
  go_wp2
  go_ret
  exact ⟨_, rfl, NN.out.1, NN.out.2, by omega⟩
end Go.Proofs.Ytnolnlekdlfeaaa.ZT
