/- Small functions of the corners. -/
import Derived.Test.YtnolnlekdlfeaaaDoorJa
import Derived.Deep.RegionLaw
import Derived.StillTailTactics
import Derived.Deep.CutBlock
namespace Go.Proofs.YtnolnlekdlfeaaaDoor.ZT
open Go.RowKit Go.Proofs.YtnolnlekdlfeaaaDoor.TB
set_option linter.unusedVariables false
theorem Tk.zero {w : World} {g : Nat} (h : Blk w g 78 (zl ++ [Value.bool false]).toArray) : Tk w g (fun _ => C0) false := by
  refine ⟨_, h, rfl, fun i j hi hj => ?_⟩
  obtain rfl : i = 0 := by omega
  rw [Nat.zero_mul, Nat.zero_add]
  show _ = some (tf (fun _ => C0) false j)
  unfold tf
  have hl : zl.length = 72 := rfl
  by_cases e : j < 72
  · rw [if_pos e]
    have hz := zl_at (j / 18) (j % 18) (by omega) (by omega)
    rw [show j / 18 * 18 + j % 18 = j by omega] at hz
    rw [← hz]
    have h1 : (zl ++ [Value.bool false]).toArray[j]? = zl[j]? := by
      rw [List.getElem?_toArray, List.getElem?_append_left (by omega)]
    rw [h1, List.getElem?_eq_getElem (by omega)]
    rfl
  · obtain rfl : j = 72 := by omega
    rfl
theorem Tk.below {w w' : World} {g : Nat} {S : Nat → Cn} {im : Bool} (h : Tk w g S im) (hb : Below w.heap.size w w') : Tk w' g S im := Tab.below h hb (Tab.lt h)
theorem Tk.alloc {w : World} {g : Nat} {S : Nat → Cn} {im : Bool} (h : Tk w g S im) (o : Obj) : Tk (w.alloc o) g S im := Tab.alloc h o
theorem Tk.lt {w : World} {g : Nat} {S : Nat → Cn} {im : Bool} (h : Tk w g S im) : g < w.heap.size := Tab.lt h
set_option maxRecDepth 100000 in
theorem new15 (w : World) : Calls Tryd.prog 15 #[] w fun e w' => ∃ g, e = .returned (.pointer (some ⟨g, 0, none⟩)) ∧ Tk w' g (fun _ => C0) false ∧ Below w.heap.size w w' ∧ w.heap.size ≤ g := by
  have N0 := Lib.hid (Blk.new w 78 (zl ++ [Value.bool false]).toArray)
  have B0 := Lib.hid (fun (o : Obj) => show Below w.heap.size w (w.alloc o) from (Below.refl _ _).alloc (Nat.le_refl _) _)
  go_enter Tryd.func15, Tryd.ntmps15
  go_wp2
  go_ret
  exact ⟨w.heap.size, rfl, Tk.zero N0.out, B0.out _, Nat.le_refl _⟩
set_option maxRecDepth 100000 in
theorem inc25 (gu : Nat) (T : ByteArray) (K : Int) (w : World) (h : K = 34 ∨ (K = 30 ∧ T = ⟨#[48]⟩)) : Calls Tryd.prog 25 #[.pointer (some ⟨gu, 0, none⟩), .agg #[.pointer none, .string T, .int .i32 0, .int .u32 0, .int .u16 0, .int .u8 K, .int .u8 0]] w fun e w' => e = .returned (.tuple #[]) ∧ Below w.heap.size w w' := by
  have B0 := Lib.hid (fun (o : Obj) => show Below w.heap.size w (w.alloc o) from (Below.refl _ _).alloc (Nat.le_refl _) _)
  rcases h with rfl | ⟨rfl, rfl⟩
  all_goals
    go_enter Tryd.func25, Tryd.ntmps25
    go_wp2
    first
      | refine bodyPost_end (results_none rfl _ _ _) rfl ?_
      | refine bodyPost_ret (results_none rfl _ _ _) rfl ?_
    exact ⟨rfl, B0.out _⟩
set_option maxRecDepth 100000 in
theorem turn26 (gt : Nat) (K : Int) (w : World) (h : K ≠ 26) (h5 : w.cell? ⟨gt, 5, none⟩ = some (.int .u8 K)) : Calls Tryd.prog 26 #[.pointer (some ⟨gt, 0, none⟩)] w fun e w' => e = .returned (.bool false) ∧ w = w' := by
  have e : (K == 26) = false := by rw [beq_eq_false_iff_ne]; exact h
  clear h
  go_enter Tryd.func26, Tryd.ntmps26
  go_wp2
  go_ret
  exact ⟨rfl, rfl⟩
set_option maxRecDepth 100000 in
theorem comp29e (g : Nat) (S : Nat → Cn) (im mw : Bool) (A : Option Addr) (n c : Nat) (ks kl : Int) (w : World) (ht : Tk w g S im) (h : (S 0).k = 0 ∨ (S 1).k = 0 ∨ (S 2).k = 0 ∨ (S 3).k = 0) :
    Calls Tryd.prog 29 #[.pointer (some ⟨g, 0, none⟩), .slice A n c, .agg #[.int .i32 ks, .int .i32 kl], .bool mw] w fun e w' => e = .returned (.tuple #[]) ∧ Below w.heap.size w w' := by
  have B0 := Lib.hid (fun (o : Obj) => show Below w.heap.size w (w.alloc o) from (Below.refl _ _).alloc (Nat.le_refl _) _)
  have c0 : w.cell? ⟨g, 5, none⟩ = some (.int .u8 (S 0).k) := ht.at (k := 0) (d := 5) (by omega) (by omega)
  have c1 : w.cell? ⟨g, 23, none⟩ = some (.int .u8 (S 1).k) := ht.at (k := 1) (d := 5) (by omega) (by omega)
  have c2 : w.cell? ⟨g, 41, none⟩ = some (.int .u8 (S 2).k) := ht.at (k := 2) (d := 5) (by omega) (by omega)
  have c3 : w.cell? ⟨g, 59, none⟩ = some (.int .u8 (S 3).k) := ht.at (k := 3) (d := 5) (by omega) (by omega)
  have hlt := ht.lt
  have ne : ¬ g = w.heap.size := by omega
  generalize (S 0).k = k0 at *
  generalize (S 1).k = k1 at *
  generalize (S 2).k = k2 at *
  generalize (S 3).k = k3 at *
  clear ht
  cases e0 : (k0 == 0) <;> cases e1 : (k1 == 0) <;> cases e2 : (k2 == 0) <;> cases e3 : (k3 == 0)
  case false.false.false.false => simp at e0 e1 e2 e3; omega
  all_goals
    clear h
    go_enter Tryd.func29, Tryd.ntmps29
    go_wp2
    first
      | refine bodyPost_end (results_none rfl _ _ _) rfl ?_
      | refine bodyPost_ret (results_none rfl _ _ _) rfl ?_
    exact ⟨rfl, B0.out _⟩
theorem cl_one (x : Cn) : ∀ v ∈ cl x, v.oneCell' = true := by
  intro v hv
  simp only [cl, List.mem_cons, List.not_mem_nil, or_false] at hv
  rcases hv with rfl | rfl | rfl | rfl | rfl | rfl | rfl | rfl | rfl | rfl | rfl | rfl | rfl | rfl | rfl | rfl | rfl | rfl
  all_goals rfl
theorem Tk.range {w : World} {g k : Nat} {S : Nat → Cn} {im : Bool} (h : Tk w g S im) (hk : k < 4) : w.rangeAt g (k * 18) (cl (S k)) := by
  intro j v hj
  have hl := (List.getElem?_eq_some_iff.1 hj).1
  rw [cl_len] at hl
  rw [h.at hk hl, hj]; rfl
theorem Tk.there {w : World} {g k : Nat} {S : Nat → Cn} {im : Bool} (h : Tk w g S im) (hk : k < 4) : w.there g (k * 18) 18 := by
  intro j hj
  exact ⟨by rw [h.at hk hj]; rfl, h.frozen _⟩
section
variable {P : Program}
theorem still_load_mid {ops : Array Oper} {o : Oper} {a : Act} {w : World} {K : Act → Prop} {E : Prop} (hgd : o.guard = none) (ty : TypeId) (x : Operand) (ho : o.op = .load ty x)
    (b off : Nat) (hx : a.eval x = .pointer (some ⟨b, off, none⟩)) (cs : List Value) (d : TypeDesc) (hc : w.rangeAt b off cs)
    (hu : P.underlying ty = some d) (hd : d.isRow = true) (hi : (P.info? ty).map (·.size) = some cs.length)
    (h : K (a.put o.dst (.agg cs.toArray))) : if Region.wanted o (yielded ops a.tmps) = true then o.still P a w K else E := by
  have hw : Region.wanted o (yielded ops a.tmps) = true := by simp [Region.wanted, hgd]
  rw [if_pos hw]
  unfold Oper.still execOp
  simp only [ho, hx, run_loadAt_mid w b off ty cs d hc hu hd hi, Sem.run_bind, Sem.run_pure, Result.andThen_ok]
  simpa [Oper.stillUpon] using h
end
theorem heap_setCells (w : World) (b : Nat) (vs : List Value) : ∀ (o k : Nat), k ≠ b → (w.setCells b o vs).heap[k]? = w.heap[k]? := by
  induction vs generalizing w with
  | nil => intro o k h; rfl
  | cons v r ih => intro o k h; rw [World.setCells, ih _ _ _ h]; exact Below.heap_setCell w _ v k h
theorem below_setCells {B : Nat} {a w : World} (h : Below B a w) {b : Nat} (hb : B ≤ b) (vs : List Value) : ∀ o, Below B a (w.setCells b o vs) := by
  induction vs generalizing w with
  | nil => intro o; exact h
  | cons v r ih => intro o; exact ih (h.setCell hb v) (o + 1)
theorem kept_setCells {B g : Nat} {a w : World} (h : Kept B g a w) (vs : List Value) : ∀ o, Kept B g a (w.setCells g o vs) := by
  induction vs generalizing w with
  | nil => intro o; exact h
  | cons v r ih => intro o; exact ih (h.setCell o v) (o + 1)
theorem sto {w : World} {b o : Nat} {D : List Value} (ht : w.there b o D.length) (h1 : ∀ v ∈ D, v.oneCell' = true) : (storeCells ⟨b, o, none⟩ D).run Tryd.prog w = .ok () (w.setCells b o D) := by
  have this := run_storeCells_cells (P := Tryd.prog) b o D 0 w (fun j hj => by simpa using (ht j hj).1) (fun j hj => by simpa using (ht j hj).2) h1
  simpa using this
theorem blk_there {w : World} {b : Nat} {t : TypeId} {cs : Array Value} {n : Nat} (h : Blk w b t cs) (hn : n ≤ cs.size) : w.there b 0 n := by
  intro j hj
  rw [Nat.zero_add]
  exact ⟨by rw [h.cell, Array.getElem?_eq_getElem (by omega)]; rfl, h.frozen _⟩
set_option maxRecDepth 100000 in
set_option maxHeartbeats 8000000 in
theorem upd28 (g k : Nat) (x : Cn) (S : Nat → Cn) (im : Bool) (A : Option Addr) (n c : Nat) (w : World) (hk : k < 4) (ht : Tk w g S im) (h0 : (S k).k = 0) :
    Calls Tryd.prog 28 #[.pointer (some ⟨g, 0, none⟩), .slice A n c, .int .i64 k, .agg (cl x).toArray] w fun e w' => e = .returned (.tuple #[]) ∧ Tk w' g (upS S k x) im ∧ Kept w.heap.size g w w' := by
  have HT := Lib.hid ht
  have hlt := ht.lt
  have q0 : (0 : Int) ≤ (k : Int) := by omega
  have q1 : (k : Int) < 4 := by omega
  obtain ⟨C, hC⟩ : ∃ C, C = cl x := ⟨_, rfl⟩
  obtain ⟨D, hD⟩ : ∃ D, D = cl (S k) := ⟨_, rfl⟩
  have HC := Lib.hid hC
  have HD := Lib.hid hD
  rw [← hC]
  have hCl : C.length = 18 := by rw [hC]; rfl
  have hDl : D.length = 18 := by rw [hD]; rfl
  have hC1 : ∀ v ∈ C, v.oneCell' = true := by rw [hC]; exact cl_one _
  have hD1 := Lib.hid (show ∀ v ∈ D, v.oneCell' = true by rw [hD]; exact cl_one _)
  have hD5 := Lib.hid (show D[5]? = some (.int .u8 0) by rw [hD]; show some (Value.int .u8 (S k).k) = _; rw [h0])
  have hiC : (Tryd.prog.info? 75).map (·.size) = some C.length := by rw [hCl]; kernel_rfl
  have hiD : (Tryd.prog.info? 75).map (·.size) = some D.length := by rw [hDl]; kernel_rfl
  have hiD2 : (Tryd.prog.info? 75).map (·.size) = some D.toArray.size := by rw [hiD]; simp
  have hRD := Lib.hid (fun (o : Obj) => show (w.alloc o).rangeAt g (k * 18) D from by rw [hD]; exact (ht.alloc o).range hk)
  have hu := Tryd.underlying75
  have ZB := Lib.hid (show Blk ((w.alloc (.cells C.toArray 75)).alloc (.cells #[.pointer none, .string ⟨#[]⟩, .int .i32 0, .int .u32 0, .int .u16 0, .int .u8 0, .int .u8 0, .pointer none, .string ⟨#[]⟩, .int .i32 0, .int .u32 0, .int .u16 0, .int .u8 0, .int .u8 0, .string ⟨#[]⟩, .int .u8 0, .int .u32 0, .bool false] 75)) (w.heap.size + 1) 75 #[.pointer none, .string ⟨#[]⟩, .int .i32 0, .int .u32 0, .int .u16 0, .int .u8 0, .int .u8 0, .pointer none, .string ⟨#[]⟩, .int .i32 0, .int .u32 0, .int .u16 0, .int .u8 0, .int .u8 0, .string ⟨#[]⟩, .int .u8 0, .int .u32 0, .bool false] from by simpa using Blk.new (w.alloc (.cells C.toArray 75)) 75 #[.pointer none, .string ⟨#[]⟩, .int .i32 0, .int .u32 0, .int .u16 0, .int .u8 0, .int .u8 0, .pointer none, .string ⟨#[]⟩, .int .i32 0, .int .u32 0, .int .u16 0, .int .u8 0, .int .u8 0, .string ⟨#[]⟩, .int .u8 0, .int .u32 0, .bool false])
  have hst := sto (D := D) (blk_there ZB.out (show D.length ≤ 18 from Nat.le_of_eq hDl)) hD1.out
  have TK := Lib.hid (show Tk (((w.alloc (.cells C.toArray 75)).alloc (.cells #[.pointer none, .string ⟨#[]⟩, .int .i32 0, .int .u32 0, .int .u16 0, .int .u8 0, .int .u8 0, .pointer none, .string ⟨#[]⟩, .int .i32 0, .int .u32 0, .int .u16 0, .int .u8 0, .int .u8 0, .string ⟨#[]⟩, .int .u8 0, .int .u32 0, .bool false] 75)).setCells (w.heap.size + 1) 0 D) g S im ∧ Blk (((w.alloc (.cells C.toArray 75)).alloc (.cells #[.pointer none, .string ⟨#[]⟩, .int .i32 0, .int .u32 0, .int .u16 0, .int .u8 0, .int .u8 0, .pointer none, .string ⟨#[]⟩, .int .i32 0, .int .u32 0, .int .u16 0, .int .u8 0, .int .u8 0, .string ⟨#[]⟩, .int .u8 0, .int .u32 0, .bool false] 75)).setCells (w.heap.size + 1) 0 D) w.heap.size 75 C.toArray ∧
      (((w.alloc (.cells C.toArray 75)).alloc (.cells #[.pointer none, .string ⟨#[]⟩, .int .i32 0, .int .u32 0, .int .u16 0, .int .u8 0, .int .u8 0, .pointer none, .string ⟨#[]⟩, .int .i32 0, .int .u32 0, .int .u16 0, .int .u8 0, .int .u8 0, .string ⟨#[]⟩, .int .u8 0, .int .u32 0, .bool false] 75)).setCells (w.heap.size + 1) 0 D).cell? ⟨w.heap.size + 1, 5, none⟩ = some (.int .u8 0) ∧ Below w.heap.size w (((w.alloc (.cells C.toArray 75)).alloc (.cells #[.pointer none, .string ⟨#[]⟩, .int .i32 0, .int .u32 0, .int .u16 0, .int .u8 0, .int .u8 0, .pointer none, .string ⟨#[]⟩, .int .i32 0, .int .u32 0, .int .u16 0, .int .u8 0, .int .u8 0, .string ⟨#[]⟩, .int .u8 0, .int .u32 0, .bool false] 75)).setCells (w.heap.size + 1) 0 D) from by
    have hb : Below w.heap.size w (((w.alloc (.cells C.toArray 75)).alloc (.cells #[.pointer none, .string ⟨#[]⟩, .int .i32 0, .int .u32 0, .int .u16 0, .int .u8 0, .int .u8 0, .pointer none, .string ⟨#[]⟩, .int .i32 0, .int .u32 0, .int .u16 0, .int .u8 0, .int .u8 0, .string ⟨#[]⟩, .int .u8 0, .int .u32 0, .bool false] 75)).setCells (w.heap.size + 1) 0 D) := below_setCells (((Below.refl _ _).alloc (Nat.le_refl _) _).alloc (by simp) _) (Nat.le_succ _) D 0
    refine ⟨ht.below hb, ?_, ?_, hb⟩
    · exact (heap_setCells _ _ D 0 _ (by omega)).trans (((Blk.new w 75 C.toArray)).alloc _)
    · have h2 := World.rangeAt_setCells_same ((w.alloc (.cells C.toArray 75)).alloc (.cells #[.pointer none, .string ⟨#[]⟩, .int .i32 0, .int .u32 0, .int .u16 0, .int .u8 0, .int .u8 0, .pointer none, .string ⟨#[]⟩, .int .i32 0, .int .u32 0, .int .u16 0, .int .u8 0, .int .u8 0, .string ⟨#[]⟩, .int .u8 0, .int .u32 0, .bool false] 75)) (w.heap.size + 1) 0 D (blk_there ZB.out (show D.length ≤ 18 from Nat.le_of_eq hDl)) 5 _ hD5.out
      simpa using h2)
  clear hC hD ht h0
  go_enter Tryd.func28, Tryd.ntmps28
  go_upto_region 2 with (first
    | (refine wpList_load_mid rfl 75 _ rfl g (k * 18) rfl D _ (hRD.out _) Tryd.underlying75 rfl hiD ?_))
  clear hst
  generalize ((w.alloc (.cells C.toArray 75)).alloc (.cells #[.pointer none, .string ⟨#[]⟩, .int .i32 0, .int .u32 0, .int .u16 0, .int .u8 0, .int .u8 0, .pointer none, .string ⟨#[]⟩, .int .i32 0, .int .u32 0, .int .u16 0, .int .u8 0, .int .u8 0, .string ⟨#[]⟩, .int .u8 0, .int .u32 0, .bool false] 75)).setCells (w.heap.size + 1) 0 D = W1 at *
  have h5 := TK.out.2.2.1
  go_wp2_with fail
  have RC := Lib.hid (show W1.drew.rangeAt w.heap.size 0 C ∧ W1.drew.there g (k * 18) 18 from ⟨by
    intro j v hj
    have := TK.out.2.1.cell j
    rw [Nat.zero_add]
    show W1.cell? _ = _
    rw [this]; simpa using hj, TK.out.1.there hk⟩)
  have hiC2 : (Tryd.prog.info? 75).map (·.size) = some C.toArray.size := by rw [hiC]; simp
  have hC2 := Lib.hid (show C.toArray.all (·.oneCell') = true from all_oneCell_toArray hC1)
  have hsz := Lib.hid (show C.toArray.size = 18 by simpa using hCl)
  have LAST := Lib.hid (show Tk (W1.drew.setCells g (k * 18) C) g (upS S k x) im ∧ Kept w.heap.size g w (W1.drew.setCells g (k * 18) C) from ⟨by rw [HC.out]; exact Tk.put TK.out.1 hk x, kept_setCells (Kept.of_below TK.out.2.2.2.drew) _ _⟩)
  clear hiD hiD2 hDl hD5 hD1 hRD ZB hC1 hCl hu h5
  refine wp_region_still_tail 6 (by kernel_rfl) (by kernel_rfl) ?_
  simp only [List.take_succ_cons, List.take_zero, List.drop_succ_cons, List.drop_zero]
  still_step
  still_step
  refine wpStill_step (fun K hK => ?_)
  refine still_load_mid (by rfl) 75 _ (by rfl) w.heap.size 0 (by rfl) C _ RC.out.1 Tryd.underlying75 rfl hiC ?_
  refine hK _ ?_
  clear hK K
  still_step
  still_step
  still_step
  refine wpStill_nil ?_
  change wpList _ _ _ _ _ W1.drew
  refine wpList_store_mid (by rfl) 75 _ _ rfl g (k * 18) C.toArray rfl rfl (by rw [hsz.out]; exact RC.out.2) hiC2 hC2.out ?_
  generalize W1.drew.setCells g (k * 18) C = W9 at *
  go_wp2
  first
    | refine bodyPost_end (results_none rfl _ _ _) rfl ?_
    | refine bodyPost_ret (results_none rfl _ _ _) rfl ?_
  exact ⟨rfl, LAST.out⟩
end Go.Proofs.YtnolnlekdlfeaaaDoor.ZT
