/- mergeCompoundSelectors of n011_210, walked where one side is empty. -/
import Derived.Test.YtdonfahjcejhpaaMd
import Derived.Test.YtdonfahjcejhpaaKe
namespace Go.Proofs.Ytdonfahjcejhpaa.MG
open Go.RowKit Go.Proofs.Ytdonfahjcejhpaa.TB
set_option linter.unusedVariables false
theorem step_run {P : Program} {ops : Array Oper} {o : Oper} {a : Act} {w : World} {K : Act → World → Prop} {Q : Exit → Act → World → Prop} {E : Prop}
    (hg : o.guard = none) (s x : Operand) (t : TypeId) (hop : o.op = Op.call { callee := Callee.builtin Builtin.append, args := #[s, x], argTypes := #[t, t] })
    (u v r : Value) (w' : World) (hs : a.eval s = u) (hx : a.eval x = v) (hrun : (Builtin.append_ #[t, t] o.type #[u, v]).run P w = .ok r w') (hK : K (a.put o.dst r) w') :
    if Region.wanted o (yielded ops a.tmps) = true then Oper.wp P o a w K Q else E := by
  have hw : Region.wanted o (yielded ops a.tmps) = true := by simp [Region.wanted, hg]
  rw [if_pos hw]
  unfold Oper.wp
  simp [execOp, hop, resolve, invoke, builtin, hs, hx, hrun, Result.andThen]
  exact hK
/-- Nothing is appended. -/
theorem run_append_none {P : Program} (w : World) (t ty e : TypeId) (i : TypeInfo) (ht : P.underlying t = some (.slice e)) (hi : P.info? e = some i) (v : Value) (hv : v = .slice none 0 0 ∨ ∃ g n c, v = .slice (some ⟨g, 0, none⟩) n c ∧ n ≤ c) :
    (Builtin.append_ #[t, t] ty #[v, .slice none 0 0]).run P w = .ok v w := by
  rcases hv with rfl | ⟨g, n, c, rfl, hc⟩
  · simp [Builtin.append_, run_underlying ht, sizeOf, typeInfo, hi, Builtin.lenOf, Builtin.firstCells]
  · simp [Builtin.append_, run_underlying ht, sizeOf, typeInfo, hi, Builtin.lenOf, Builtin.firstCells, hc, storeCells]
/-- No element is appended to nothing. -/
theorem run_append_zero {P : Program} (w : World) (t ty e : TypeId) (i : TypeInfo) (ht : P.underlying t = some (.slice e)) (hi : P.info? e = some i) (a : Option Addr) (c : Nat) :
    (Builtin.append_ #[t, t] ty #[.slice none 0 0, .slice a 0 c]).run P w = .ok (.slice none 0 0) w := by
  cases a with
  | none => simp [Builtin.append_, run_underlying ht, sizeOf, typeInfo, hi, Builtin.lenOf, Builtin.firstCells]
  | some a => simp [Builtin.append_, run_underlying ht, sizeOf, typeInfo, hi, Builtin.lenOf, Builtin.firstCells, loadCells, loadCellsFrom]
theorem Kept.grown {B g : Nat} {a w w' : World} (h : Kept B g a w) (hg : w.grownBy w' none) (hB : B ≤ w.heap.size) : Kept B g a w' :=
  h.trans ⟨hg.os, hg.tape, hg.output, hg.size, fun k hk _ => hg.block k (Nat.lt_of_lt_of_le hk hB) (by simp)⟩
/-- A source is merged into an empty target. -/
def Mb (B tg : Nat) (tp : Option Addr) (n m : Nat) (S : Nat → ByteArray) (l cB : Int) (we : Bool) (w : World) (e : Ending) (w' : World) : Prop :=
  e = .returned (.tuple #[]) ∧ ∃ v' nv', NsV nv' m ∧ Blk w' tg 46 #[.pointer tp, v', nv', .int .i32 l, .int .u8 cB, .bool we] ∧ Subs B w' v' n S ∧ Kept w.heap.size tg w w'
/-- The end of a merge that appends. -/
theorem mb_end {B tg gg cap n m : Nat} {tp : Option Addr} {nv : Value} {S : Nat → ByteArray} {l cB : Int} {we : Bool} {w W W' : World} {P : Nat → Nat} (hB : B ≤ w.heap.size) (hX : Blk W tg 46 #[.pointer tp, .slice none 0 0, nv, .int .i32 l, .int .u8 cB, .bool we]) (hK : Kept w.heap.size tg w W)
    (hP : ∀ i, i < n → Blk W (P i) 81 #[.string (S i), .slice none 0 0, .bool false]) (hnv : NsV nv m) (hg : W.drew.grownBy W' none) (hown : W'.ownsRow B 68 3 (.slice (some ⟨gg, 0, none⟩) (0 + n) cap) (0 + n) ([] ++ els P n)) :
    Mb B tg tp n m S l cB we w (.returned (.tuple #[])) (W'.setCell ⟨tg, 1, none⟩ (.slice (some ⟨gg, 0, none⟩) n cap)) := by
  rw [Nat.zero_add] at hown
  have far : ∀ {q : Nat} {t : TypeId} {cs : Array Value}, Blk W q t cs → Blk W' q t cs := fun hq => hq.drew.grown hg (by simp)
  have hX' := far hX
  have h1 : Subs B W' (.slice (some ⟨gg, 0, none⟩) n cap) n S := ⟨P, by simpa using hown, fun i hi => far (hP i hi)⟩
  refine ⟨rfl, _, nv, hnv, hX'.set_ 1 _, h1.far hX' (by decide) (by decide) _, ?_⟩
  have h2 := Kept.grown hK.drew hg (show w.heap.size ≤ W.drew.heap.size from hK.size)
  exact h2.setCell 1 _
theorem mb_end0 {B tg m : Nat} {tp : Option Addr} {nv : Value} (S : Nat → ByteArray) {l cB : Int} {we : Bool} {w W : World} (hX : Blk W tg 46 #[.pointer tp, .slice none 0 0, nv, .int .i32 l, .int .u8 cB, .bool we]) (hK : Kept w.heap.size tg w W) (hnv : NsV nv m) :
    Mb B tg tp 0 m S l cB we w (.returned (.tuple #[])) ((W.setCell ⟨tg, 1, none⟩ (.slice none 0 0)).drew) :=
  ⟨rfl, .slice none 0 0, nv, hnv, (hX.set_ 1 (.slice none 0 0)).drew, Subs.nil _ _ _, (hK.setCell 1 _).drew⟩
theorem Subs.vform {base n : Nat} {w : World} {v : Value} {S : Nat → ByteArray} (h : Subs base w v n S) : v = .slice none 0 0 ∨ ∃ g m c, v = .slice (some ⟨g, 0, none⟩) m c ∧ m ≤ c := by
  obtain ⟨P, h1, -⟩ := h
  rcases h1.2 with ⟨rfl, -⟩ | ⟨g, cap, cur, rfl, -, -, hc, -⟩
  · exact .inl rfl
  · exact .inr ⟨_, _, _, rfl, hc⟩
/-- An empty source is merged. -/
def Ma (tg : Nat) (tp v nv : Value) (l cB : Int) (we : Bool) (w : World) (e : Ending) (w' : World) : Prop :=
  e = .returned (.tuple #[]) ∧ Blk w' tg 46 #[tp, v, nv, .int .i32 l, .int .u8 cB, .bool we] ∧ Kept w.heap.size tg w w'
set_option maxRecDepth 100000 in
set_option maxHeartbeats 4000000 in
theorem merge_a (tg : Nat) (tp nv : Value) (va : Option Addr) (vl vc : Nat) (l cB c2 : Int) (we : Bool) (w : World) (hv : Value.slice va vl vc = .slice none 0 0 ∨ ∃ g m c, Value.slice va vl vc = .slice (some ⟨g, 0, none⟩) m c ∧ m ≤ c)
    (hB : Blk w tg 46 #[tp, .slice va vl vc, nv, .int .i32 l, .int .u8 cB, .bool we]) :
    Calls Try.prog 22 #[.pointer (some ⟨tg, 0, none⟩), .agg #[.pointer none, .slice none 0 0, .slice none 0 0, .int .i32 0, .int .u8 c2, .bool false]] w (Ma tg tp (.slice va vl vc) nv l cB we w) := by
  have hlt := hB.lt
  have HB := Lib.hid hB
  have c1 : w.cell? ⟨tg, 1, none⟩ = some (.slice va vl vc) := hB.cell 1
  have f1 : w.frozen? ⟨tg, 1, none⟩ = false := hB.frozen 1
  have n1 : ¬ tg = w.heap.size := by omega
  have n2 : ¬ w.heap.size = tg := by omega
  obtain ⟨i0, hi, hz0, hz1, hz2⟩ := info_parts info68
  have HR := Lib.hid (fun (W : World) => run_append_none (P := Try.prog) W 39 39 68 i0 Try.underlying39 hi (.slice va vl vc) hv)
  have HE := Lib.hid (show Ma tg tp (.slice va vl vc) nv l cB we w (.returned (.tuple #[])) (((w.setCell ⟨tg, 1, none⟩ (.slice va vl vc)).alloc (.cells #[.pointer none, .slice none 0 0, .slice none 0 0, .int .i32 0, .int .u8 c2, .bool false] 46)).drew) from
    ⟨rfl, ((hB.set_ 1 (.slice va vl vc)).alloc _).drew, (((Kept.refl _ _ _).setCell 1 _).alloc (by simp) _).drew⟩)
  clear hB hv hi hz0 hz1 hz2
  go_enter Try.func22, Try.ntmps22
  go_wp2_with fail
  go_region_law (refine step_run (by rfl) _ _ 39 (by rfl) (.slice va vl vc) (.slice none 0 0) (.slice va vl vc) _ (by rfl) (by rfl) (HR.out _) ?_)
  all_goals
    refine bodyPost_end (results_none rfl _ _ _) rfl ?_
    exact HE.out
set_option maxRecDepth 100000 in
set_option maxHeartbeats 4000000 in
theorem merge_b0 (tg : Nat)  (va : Option Addr) (vl vc : Nat) (na : Option Addr) (m nc n base : Nat) (S : Nat → ByteArray) (l l2 cB c2 : Int) (we we2 : Bool) (w : World) (hm : m = 0) (hn : n = 0) (hnl : n ≤ 4096) (hS : Subs base w (.slice va vl vc) n S)
    (hB : Blk w tg 46 #[.pointer none, .slice none 0 0, .slice none 0 0, .int .i32 l, .int .u8 cB, .bool we]) :
    Calls Try.prog 22 #[.pointer (some ⟨tg, 0, none⟩), .agg #[.pointer none, .slice va vl vc, .slice na m nc, .int .i32 l2, .int .u8 c2, .bool we2]] w (Mb w.heap.size tg none n m S l cB we w) := by
  have hlt := hB.lt
  subst hn
  have hv0 : vl = 0 := by
    obtain ⟨P, h1, -⟩ := hS
    rcases h1.2 with ⟨h, -⟩ | ⟨g, c, cur, h, -⟩
    · simp only [Value.slice.injEq] at h; exact h.2.1
    · simp only [Value.slice.injEq] at h; exact h.2.1
  subst hv0
  have c0 : w.cell? ⟨tg, 0, none⟩ = some (.pointer none) := hB.cell 0
  have f0 : w.frozen? ⟨tg, 0, none⟩ = false := hB.frozen 0
  have c1 : w.cell? ⟨tg, 1, none⟩ = some (.slice none 0 0) := hB.cell 1
  have f1 : w.frozen? ⟨tg, 1, none⟩ = false := hB.frozen 1
  have c2_ : w.cell? ⟨tg, 2, none⟩ = some (.slice none 0 0) := hB.cell 2
  have f2 : w.frozen? ⟨tg, 2, none⟩ = false := hB.frozen 2
  have n1 : ¬ tg = w.heap.size := by omega
  have n2 : ¬ w.heap.size = tg := by omega
  subst hm
  obtain ⟨i0, hi, hz0, hz1, hz2⟩ := info_parts info68
  have BX := Lib.hid (show Blk ((w).alloc (.cells #[.pointer none, .slice va 0 vc, .slice na 0 nc, .int .i32 l2, .int .u8 c2, .bool we2] 46)) tg 46 #[.pointer none, .slice none 0 0, .slice none 0 0, .int .i32 l, .int .u8 cB, .bool we] from (hB).alloc _)
  have KX := Lib.hid (show Kept w.heap.size tg w ((w).alloc (.cells #[.pointer none, .slice va 0 vc, .slice na 0 nc, .int .i32 l2, .int .u8 c2, .bool we2] 46)) from ((Kept.refl w.heap.size tg w)).alloc (by simp) _)
  have XX := Lib.hid (show Blk ((w).alloc (.cells #[.pointer none, .slice va 0 vc, .slice na 0 nc, .int .i32 l2, .int .u8 c2, .bool we2] 46)) w.heap.size 46 #[.pointer none, .slice va 0 vc, .slice na 0 nc, .int .i32 l2, .int .u8 c2, .bool we2] from by have h := Blk.new (w) 46 #[.pointer none, .slice va 0 vc, .slice na 0 nc, .int .i32 l2, .int .u8 c2, .bool we2]; simpa using h)
  have SX := Lib.hid (show Subs base ((w).alloc (.cells #[.pointer none, .slice va 0 vc, .slice na 0 nc, .int .i32 l2, .int .u8 c2, .bool we2] 46)) (.slice va 0 vc) 0 S from (hS).below ((Below.refl _ _).alloc (Nat.le_refl _) _))
  have NX : Hid (NsV (.slice none 0 0) 0) := Lib.hid ⟨none, 0, rfl⟩
  clear hB hS
  go_enter Try.func22, Try.ntmps22
  go_upto_region 7 with fail
  clear c0 f0 c1 f1 c2_ f2
  generalize (w).alloc (.cells #[.pointer none, .slice va 0 vc, .slice na 0 nc, .int .i32 l2, .int .u8 c2, .bool we2] 46) = W at *
  have y1 : W.cell? ⟨tg, 1, none⟩ = some (.slice none 0 0) := BX.out.cell 1
  have z1 : W.frozen? ⟨tg, 1, none⟩ = false := BX.out.frozen 1
  have y2 : W.cell? ⟨w.heap.size, 1, none⟩ = some (.slice va 0 vc) := XX.out.cell 1
  have HR := Lib.hid (fun (W : World) => run_append_zero (P := Try.prog) W 39 39 68 i0 Try.underlying39 hi va vc)
  have HE := Lib.hid (mb_end0 (B := w.heap.size) (tp := none) (m := 0) (l := l) (cB := cB) (we := we) S BX.out KX.out NX.out)
  clear hi hz0 hz1 hz2
  go_region_law (refine step_run (by rfl) _ _ 39 (by rfl) (.slice none 0 0) (.slice va 0 vc) (.slice none 0 0) _ (by rfl) (by rfl) (HR.out _) ?_)
  all_goals
    refine bodyPost_end (results_none rfl _ _ _) rfl ?_
    exact HE.out
set_option maxRecDepth 100000 in
set_option maxHeartbeats 4000000 in
theorem merge_b1 (tg : Nat)  (va : Option Addr) (vl vc : Nat) (na : Option Addr) (m nc n base : Nat) (S : Nat → ByteArray) (l l2 cB c2 : Int) (we we2 : Bool) (w : World) (hm : 0 < m) (hn : n = 0) (hnl : n ≤ 4096) (hS : Subs base w (.slice va vl vc) n S)
    (hB : Blk w tg 46 #[.pointer none, .slice none 0 0, .slice none 0 0, .int .i32 l, .int .u8 cB, .bool we]) :
    Calls Try.prog 22 #[.pointer (some ⟨tg, 0, none⟩), .agg #[.pointer none, .slice va vl vc, .slice na m nc, .int .i32 l2, .int .u8 c2, .bool we2]] w (Mb w.heap.size tg none n m S l cB we w) := by
  have hlt := hB.lt
  subst hn
  have hv0 : vl = 0 := by
    obtain ⟨P, h1, -⟩ := hS
    rcases h1.2 with ⟨h, -⟩ | ⟨g, c, cur, h, -⟩
    · simp only [Value.slice.injEq] at h; exact h.2.1
    · simp only [Value.slice.injEq] at h; exact h.2.1
  subst hv0
  have c0 : w.cell? ⟨tg, 0, none⟩ = some (.pointer none) := hB.cell 0
  have f0 : w.frozen? ⟨tg, 0, none⟩ = false := hB.frozen 0
  have c1 : w.cell? ⟨tg, 1, none⟩ = some (.slice none 0 0) := hB.cell 1
  have f1 : w.frozen? ⟨tg, 1, none⟩ = false := hB.frozen 1
  have c2_ : w.cell? ⟨tg, 2, none⟩ = some (.slice none 0 0) := hB.cell 2
  have f2 : w.frozen? ⟨tg, 2, none⟩ = false := hB.frozen 2
  have n1 : ¬ tg = w.heap.size := by omega
  have n2 : ¬ w.heap.size = tg := by omega
  have hm1 : (0 : Int) < (m : Int) := by omega
  obtain ⟨i0, hi, hz0, hz1, hz2⟩ := info_parts info68
  have BX := Lib.hid (show Blk ((w.setCell ⟨tg, 2, none⟩ (.slice na m nc)).alloc (.cells #[.pointer none, .slice va 0 vc, .slice na m nc, .int .i32 l2, .int .u8 c2, .bool we2] 46)) tg 46 #[.pointer none, .slice none 0 0, .slice na m nc, .int .i32 l, .int .u8 cB, .bool we] from ((hB.set_ 2 (.slice na m nc))).alloc _)
  have KX := Lib.hid (show Kept w.heap.size tg w ((w.setCell ⟨tg, 2, none⟩ (.slice na m nc)).alloc (.cells #[.pointer none, .slice va 0 vc, .slice na m nc, .int .i32 l2, .int .u8 c2, .bool we2] 46)) from (((Kept.refl w.heap.size tg w).setCell 2 _)).alloc (by simp) _)
  have XX := Lib.hid (show Blk ((w.setCell ⟨tg, 2, none⟩ (.slice na m nc)).alloc (.cells #[.pointer none, .slice va 0 vc, .slice na m nc, .int .i32 l2, .int .u8 c2, .bool we2] 46)) w.heap.size 46 #[.pointer none, .slice va 0 vc, .slice na m nc, .int .i32 l2, .int .u8 c2, .bool we2] from by have h := Blk.new (w.setCell ⟨tg, 2, none⟩ (.slice na m nc)) 46 #[.pointer none, .slice va 0 vc, .slice na m nc, .int .i32 l2, .int .u8 c2, .bool we2]; simpa using h)
  have SX := Lib.hid (show Subs base ((w.setCell ⟨tg, 2, none⟩ (.slice na m nc)).alloc (.cells #[.pointer none, .slice va 0 vc, .slice na m nc, .int .i32 l2, .int .u8 c2, .bool we2] 46)) (.slice va 0 vc) 0 S from ((hS.far hB (by decide) (by decide) (.slice na m nc))).below ((Below.refl _ _).alloc (Nat.le_refl _) _))
  have NX : Hid (NsV (.slice na m nc) m) := Lib.hid ⟨_, _, rfl⟩
  clear hB hS
  go_enter Try.func22, Try.ntmps22
  go_upto_region 7 with fail
  clear c0 f0 c1 f1 c2_ f2
  generalize (w.setCell ⟨tg, 2, none⟩ (.slice na m nc)).alloc (.cells #[.pointer none, .slice va 0 vc, .slice na m nc, .int .i32 l2, .int .u8 c2, .bool we2] 46) = W at *
  have y1 : W.cell? ⟨tg, 1, none⟩ = some (.slice none 0 0) := BX.out.cell 1
  have z1 : W.frozen? ⟨tg, 1, none⟩ = false := BX.out.frozen 1
  have y2 : W.cell? ⟨w.heap.size, 1, none⟩ = some (.slice va 0 vc) := XX.out.cell 1
  have HR := Lib.hid (fun (W : World) => run_append_zero (P := Try.prog) W 39 39 68 i0 Try.underlying39 hi va vc)
  have HE := Lib.hid (mb_end0 (B := w.heap.size) (tp := none) (m := m) (l := l) (cB := cB) (we := we) S BX.out KX.out NX.out)
  clear hi hz0 hz1 hz2
  go_region_law (refine step_run (by rfl) _ _ 39 (by rfl) (.slice none 0 0) (.slice va 0 vc) (.slice none 0 0) _ (by rfl) (by rfl) (HR.out _) ?_)
  all_goals
    refine bodyPost_end (results_none rfl _ _ _) rfl ?_
    exact HE.out
set_option maxRecDepth 100000 in
set_option maxHeartbeats 4000000 in
theorem merge_b2 (tg : Nat) (ta : Addr) (va : Option Addr) (vl vc : Nat) (na : Option Addr) (m nc n base : Nat) (S : Nat → ByteArray) (l l2 cB c2 : Int) (we we2 : Bool) (w : World) (hm : m = 0) (hn : n = 0) (hnl : n ≤ 4096) (hS : Subs base w (.slice va vl vc) n S)
    (hB : Blk w tg 46 #[.pointer none, .slice none 0 0, .slice none 0 0, .int .i32 l, .int .u8 cB, .bool we]) :
    Calls Try.prog 22 #[.pointer (some ⟨tg, 0, none⟩), .agg #[.pointer (some ta), .slice va vl vc, .slice na m nc, .int .i32 l2, .int .u8 c2, .bool we2]] w (Mb w.heap.size tg (some ta) n m S l cB we w) := by
  have hlt := hB.lt
  subst hn
  have hv0 : vl = 0 := by
    obtain ⟨P, h1, -⟩ := hS
    rcases h1.2 with ⟨h, -⟩ | ⟨g, c, cur, h, -⟩
    · simp only [Value.slice.injEq] at h; exact h.2.1
    · simp only [Value.slice.injEq] at h; exact h.2.1
  subst hv0
  have c0 : w.cell? ⟨tg, 0, none⟩ = some (.pointer none) := hB.cell 0
  have f0 : w.frozen? ⟨tg, 0, none⟩ = false := hB.frozen 0
  have c1 : w.cell? ⟨tg, 1, none⟩ = some (.slice none 0 0) := hB.cell 1
  have f1 : w.frozen? ⟨tg, 1, none⟩ = false := hB.frozen 1
  have c2_ : w.cell? ⟨tg, 2, none⟩ = some (.slice none 0 0) := hB.cell 2
  have f2 : w.frozen? ⟨tg, 2, none⟩ = false := hB.frozen 2
  have n1 : ¬ tg = w.heap.size := by omega
  have n2 : ¬ w.heap.size = tg := by omega
  subst hm
  obtain ⟨i0, hi, hz0, hz1, hz2⟩ := info_parts info68
  have BX := Lib.hid (show Blk (((w).setCell ⟨tg, 0, none⟩ (.pointer (some ta))).alloc (.cells #[.pointer (some ta), .slice va 0 vc, .slice na 0 nc, .int .i32 l2, .int .u8 c2, .bool we2] 46)) tg 46 #[.pointer (some ta), .slice none 0 0, .slice none 0 0, .int .i32 l, .int .u8 cB, .bool we] from ((hB.set_ 0 (.pointer (some ta)))).alloc _)
  have KX := Lib.hid (show Kept w.heap.size tg w (((w).setCell ⟨tg, 0, none⟩ (.pointer (some ta))).alloc (.cells #[.pointer (some ta), .slice va 0 vc, .slice na 0 nc, .int .i32 l2, .int .u8 c2, .bool we2] 46)) from (((Kept.refl w.heap.size tg w).setCell 0 _)).alloc (by simp) _)
  have XX := Lib.hid (show Blk (((w).setCell ⟨tg, 0, none⟩ (.pointer (some ta))).alloc (.cells #[.pointer (some ta), .slice va 0 vc, .slice na 0 nc, .int .i32 l2, .int .u8 c2, .bool we2] 46)) w.heap.size 46 #[.pointer (some ta), .slice va 0 vc, .slice na 0 nc, .int .i32 l2, .int .u8 c2, .bool we2] from by have h := Blk.new ((w).setCell ⟨tg, 0, none⟩ (.pointer (some ta))) 46 #[.pointer (some ta), .slice va 0 vc, .slice na 0 nc, .int .i32 l2, .int .u8 c2, .bool we2]; simpa using h)
  have SX := Lib.hid (show Subs base (((w).setCell ⟨tg, 0, none⟩ (.pointer (some ta))).alloc (.cells #[.pointer (some ta), .slice va 0 vc, .slice na 0 nc, .int .i32 l2, .int .u8 c2, .bool we2] 46)) (.slice va 0 vc) 0 S from ((hS.far hB (by decide) (by decide) (.pointer (some ta)))).below ((Below.refl _ _).alloc (Nat.le_refl _) _))
  have NX : Hid (NsV (.slice none 0 0) 0) := Lib.hid ⟨none, 0, rfl⟩
  clear hB hS
  go_enter Try.func22, Try.ntmps22
  go_upto_region 7 with fail
  clear c0 f0 c1 f1 c2_ f2
  generalize ((w).setCell ⟨tg, 0, none⟩ (.pointer (some ta))).alloc (.cells #[.pointer (some ta), .slice va 0 vc, .slice na 0 nc, .int .i32 l2, .int .u8 c2, .bool we2] 46) = W at *
  have y1 : W.cell? ⟨tg, 1, none⟩ = some (.slice none 0 0) := BX.out.cell 1
  have z1 : W.frozen? ⟨tg, 1, none⟩ = false := BX.out.frozen 1
  have y2 : W.cell? ⟨w.heap.size, 1, none⟩ = some (.slice va 0 vc) := XX.out.cell 1
  have HR := Lib.hid (fun (W : World) => run_append_zero (P := Try.prog) W 39 39 68 i0 Try.underlying39 hi va vc)
  have HE := Lib.hid (mb_end0 (B := w.heap.size) (tp := (some ta)) (m := 0) (l := l) (cB := cB) (we := we) S BX.out KX.out NX.out)
  clear hi hz0 hz1 hz2
  go_region_law (refine step_run (by rfl) _ _ 39 (by rfl) (.slice none 0 0) (.slice va 0 vc) (.slice none 0 0) _ (by rfl) (by rfl) (HR.out _) ?_)
  all_goals
    refine bodyPost_end (results_none rfl _ _ _) rfl ?_
    exact HE.out
set_option maxRecDepth 100000 in
set_option maxHeartbeats 4000000 in
theorem merge_b3 (tg : Nat) (ta : Addr) (va : Option Addr) (vl vc : Nat) (na : Option Addr) (m nc n base : Nat) (S : Nat → ByteArray) (l l2 cB c2 : Int) (we we2 : Bool) (w : World) (hm : 0 < m) (hn : n = 0) (hnl : n ≤ 4096) (hS : Subs base w (.slice va vl vc) n S)
    (hB : Blk w tg 46 #[.pointer none, .slice none 0 0, .slice none 0 0, .int .i32 l, .int .u8 cB, .bool we]) :
    Calls Try.prog 22 #[.pointer (some ⟨tg, 0, none⟩), .agg #[.pointer (some ta), .slice va vl vc, .slice na m nc, .int .i32 l2, .int .u8 c2, .bool we2]] w (Mb w.heap.size tg (some ta) n m S l cB we w) := by
  have hlt := hB.lt
  subst hn
  have hv0 : vl = 0 := by
    obtain ⟨P, h1, -⟩ := hS
    rcases h1.2 with ⟨h, -⟩ | ⟨g, c, cur, h, -⟩
    · simp only [Value.slice.injEq] at h; exact h.2.1
    · simp only [Value.slice.injEq] at h; exact h.2.1
  subst hv0
  have c0 : w.cell? ⟨tg, 0, none⟩ = some (.pointer none) := hB.cell 0
  have f0 : w.frozen? ⟨tg, 0, none⟩ = false := hB.frozen 0
  have c1 : w.cell? ⟨tg, 1, none⟩ = some (.slice none 0 0) := hB.cell 1
  have f1 : w.frozen? ⟨tg, 1, none⟩ = false := hB.frozen 1
  have c2_ : w.cell? ⟨tg, 2, none⟩ = some (.slice none 0 0) := hB.cell 2
  have f2 : w.frozen? ⟨tg, 2, none⟩ = false := hB.frozen 2
  have n1 : ¬ tg = w.heap.size := by omega
  have n2 : ¬ w.heap.size = tg := by omega
  have hm1 : (0 : Int) < (m : Int) := by omega
  obtain ⟨i0, hi, hz0, hz1, hz2⟩ := info_parts info68
  have BX := Lib.hid (show Blk (((w.setCell ⟨tg, 2, none⟩ (.slice na m nc)).setCell ⟨tg, 0, none⟩ (.pointer (some ta))).alloc (.cells #[.pointer (some ta), .slice va 0 vc, .slice na m nc, .int .i32 l2, .int .u8 c2, .bool we2] 46)) tg 46 #[.pointer (some ta), .slice none 0 0, .slice na m nc, .int .i32 l, .int .u8 cB, .bool we] from (((hB.set_ 2 (.slice na m nc)).set_ 0 (.pointer (some ta)))).alloc _)
  have KX := Lib.hid (show Kept w.heap.size tg w (((w.setCell ⟨tg, 2, none⟩ (.slice na m nc)).setCell ⟨tg, 0, none⟩ (.pointer (some ta))).alloc (.cells #[.pointer (some ta), .slice va 0 vc, .slice na m nc, .int .i32 l2, .int .u8 c2, .bool we2] 46)) from ((((Kept.refl w.heap.size tg w).setCell 2 _).setCell 0 _)).alloc (by simp) _)
  have XX := Lib.hid (show Blk (((w.setCell ⟨tg, 2, none⟩ (.slice na m nc)).setCell ⟨tg, 0, none⟩ (.pointer (some ta))).alloc (.cells #[.pointer (some ta), .slice va 0 vc, .slice na m nc, .int .i32 l2, .int .u8 c2, .bool we2] 46)) w.heap.size 46 #[.pointer (some ta), .slice va 0 vc, .slice na m nc, .int .i32 l2, .int .u8 c2, .bool we2] from by have h := Blk.new ((w.setCell ⟨tg, 2, none⟩ (.slice na m nc)).setCell ⟨tg, 0, none⟩ (.pointer (some ta))) 46 #[.pointer (some ta), .slice va 0 vc, .slice na m nc, .int .i32 l2, .int .u8 c2, .bool we2]; simpa using h)
  have SX := Lib.hid (show Subs base (((w.setCell ⟨tg, 2, none⟩ (.slice na m nc)).setCell ⟨tg, 0, none⟩ (.pointer (some ta))).alloc (.cells #[.pointer (some ta), .slice va 0 vc, .slice na m nc, .int .i32 l2, .int .u8 c2, .bool we2] 46)) (.slice va 0 vc) 0 S from (((hS.far hB (by decide) (by decide) (.slice na m nc)).far (hB.set_ 2 (.slice na m nc)) (by decide) (by decide) (.pointer (some ta)))).below ((Below.refl _ _).alloc (Nat.le_refl _) _))
  have NX : Hid (NsV (.slice na m nc) m) := Lib.hid ⟨_, _, rfl⟩
  clear hB hS
  go_enter Try.func22, Try.ntmps22
  go_upto_region 7 with fail
  clear c0 f0 c1 f1 c2_ f2
  generalize ((w.setCell ⟨tg, 2, none⟩ (.slice na m nc)).setCell ⟨tg, 0, none⟩ (.pointer (some ta))).alloc (.cells #[.pointer (some ta), .slice va 0 vc, .slice na m nc, .int .i32 l2, .int .u8 c2, .bool we2] 46) = W at *
  have y1 : W.cell? ⟨tg, 1, none⟩ = some (.slice none 0 0) := BX.out.cell 1
  have z1 : W.frozen? ⟨tg, 1, none⟩ = false := BX.out.frozen 1
  have y2 : W.cell? ⟨w.heap.size, 1, none⟩ = some (.slice va 0 vc) := XX.out.cell 1
  have HR := Lib.hid (fun (W : World) => run_append_zero (P := Try.prog) W 39 39 68 i0 Try.underlying39 hi va vc)
  have HE := Lib.hid (mb_end0 (B := w.heap.size) (tp := (some ta)) (m := m) (l := l) (cB := cB) (we := we) S BX.out KX.out NX.out)
  clear hi hz0 hz1 hz2
  go_region_law (refine step_run (by rfl) _ _ 39 (by rfl) (.slice none 0 0) (.slice va 0 vc) (.slice none 0 0) _ (by rfl) (by rfl) (HR.out _) ?_)
  all_goals
    refine bodyPost_end (results_none rfl _ _ _) rfl ?_
    exact HE.out
set_option maxRecDepth 100000 in
set_option maxHeartbeats 4000000 in
theorem merge_b4 (tg : Nat)  (va : Option Addr) (vl vc : Nat) (na : Option Addr) (m nc n base : Nat) (S : Nat → ByteArray) (l l2 cB c2 : Int) (we we2 : Bool) (w : World) (hm : m = 0) (hn : 0 < n) (hnl : n ≤ 4096) (hS : Subs base w (.slice va vl vc) n S)
    (hB : Blk w tg 46 #[.pointer none, .slice none 0 0, .slice none 0 0, .int .i32 l, .int .u8 cB, .bool we]) :
    Calls Try.prog 22 #[.pointer (some ⟨tg, 0, none⟩), .agg #[.pointer none, .slice va vl vc, .slice na m nc, .int .i32 l2, .int .u8 c2, .bool we2]] w (Mb w.heap.size tg none n m S l cB we w) := by
  have hlt := hB.lt
  obtain ⟨gs, cap0, -, hv, -⟩ := hS.cells hn
  simp only [Value.slice.injEq] at hv
  obtain ⟨rfl, rfl, rfl⟩ := hv
  have c0 : w.cell? ⟨tg, 0, none⟩ = some (.pointer none) := hB.cell 0
  have f0 : w.frozen? ⟨tg, 0, none⟩ = false := hB.frozen 0
  have c1 : w.cell? ⟨tg, 1, none⟩ = some (.slice none 0 0) := hB.cell 1
  have f1 : w.frozen? ⟨tg, 1, none⟩ = false := hB.frozen 1
  have c2_ : w.cell? ⟨tg, 2, none⟩ = some (.slice none 0 0) := hB.cell 2
  have f2 : w.frozen? ⟨tg, 2, none⟩ = false := hB.frozen 2
  have n1 : ¬ tg = w.heap.size := by omega
  have n2 : ¬ w.heap.size = tg := by omega
  subst hm
  obtain ⟨i0, hi, hz0, hz1, hz2⟩ := info_parts info68
  have BX := Lib.hid (show Blk ((w).alloc (.cells #[.pointer none, .slice (some ⟨gs, 0, none⟩) vl vc, .slice na 0 nc, .int .i32 l2, .int .u8 c2, .bool we2] 46)) tg 46 #[.pointer none, .slice none 0 0, .slice none 0 0, .int .i32 l, .int .u8 cB, .bool we] from (hB).alloc _)
  have KX := Lib.hid (show Kept w.heap.size tg w ((w).alloc (.cells #[.pointer none, .slice (some ⟨gs, 0, none⟩) vl vc, .slice na 0 nc, .int .i32 l2, .int .u8 c2, .bool we2] 46)) from ((Kept.refl w.heap.size tg w)).alloc (by simp) _)
  have XX := Lib.hid (show Blk ((w).alloc (.cells #[.pointer none, .slice (some ⟨gs, 0, none⟩) vl vc, .slice na 0 nc, .int .i32 l2, .int .u8 c2, .bool we2] 46)) w.heap.size 46 #[.pointer none, .slice (some ⟨gs, 0, none⟩) vl vc, .slice na 0 nc, .int .i32 l2, .int .u8 c2, .bool we2] from by have h := Blk.new (w) 46 #[.pointer none, .slice (some ⟨gs, 0, none⟩) vl vc, .slice na 0 nc, .int .i32 l2, .int .u8 c2, .bool we2]; simpa using h)
  have SX := Lib.hid (show Subs base ((w).alloc (.cells #[.pointer none, .slice (some ⟨gs, 0, none⟩) vl vc, .slice na 0 nc, .int .i32 l2, .int .u8 c2, .bool we2] 46)) (.slice (some ⟨gs, 0, none⟩) vl vc) vl S from (hS).below ((Below.refl _ _).alloc (Nat.le_refl _) _))
  have NX : Hid (NsV (.slice none 0 0) 0) := Lib.hid ⟨none, 0, rfl⟩
  clear hB hS
  go_enter Try.func22, Try.ntmps22
  go_upto_region 7 with fail
  clear c0 f0 c1 f1 c2_ f2
  generalize (w).alloc (.cells #[.pointer none, .slice (some ⟨gs, 0, none⟩) vl vc, .slice na 0 nc, .int .i32 l2, .int .u8 c2, .bool we2] 46) = W at *
  have y1 : W.cell? ⟨tg, 1, none⟩ = some (.slice none 0 0) := BX.out.cell 1
  have z1 : W.frozen? ⟨tg, 1, none⟩ = false := BX.out.frozen 1
  have y2 : W.cell? ⟨w.heap.size, 1, none⟩ = some (.slice (some ⟨gs, 0, none⟩) vl vc) := XX.out.cell 1
  obtain ⟨P, hown, hP⟩ := SX.out
  have OP := Lib.hid hP
  have OW := Lib.hid hown
  have HN := Lib.hid (hown.cells (g := gs) rfl)
  have KS := Lib.hid (KX.out.size)
  clear hown hP
  go_region_law (first
    | (refine step_append_lies _ (by rfl) _ _ _ (by rfl) w.heap.size 68 i0 _ 3 24 Try.underlying39 hi hz0 hz1 hz2 rfl (by omega) (.slice none 0 0) 0 [] (by rfl) (World.ownsRow_nil _ _ _ _) ⟨gs, 0, none⟩ vl vc (els P vl) (by rfl) (els_len P vl) (fun j u hj => HN.out j u hj) (els_one P vl) (by omega) (by unfold maxLen; omega) (by omega) KS.out W.heap.size (by rfl) ?_; intro gg cap w10 hown1 hgrow hat hlt9; have LN := Lib.hid (mb_end (tp := none) (m := 0) (l := l) (cB := cB) (we := we) (Nat.le_refl _) BX.out KX.out OP.out NX.out hgrow hown1); have y9 := hgrow.cell (a := ⟨tg, 1, none⟩) (v := .slice none 0 0) y1 (by simp [Value.ownBlock]); have z9 := (hgrow.frozen_far ⟨tg, 1, none⟩ (show tg < W.drew.heap.size from BX.out.lt) (by simp [Value.ownBlock])).trans z1; clear hown1 hgrow hat hlt9))
  all_goals
    refine bodyPost_end (results_none rfl _ _ _) rfl ?_
    exact LN.out
set_option maxRecDepth 100000 in
set_option maxHeartbeats 4000000 in
theorem merge_b5 (tg : Nat)  (va : Option Addr) (vl vc : Nat) (na : Option Addr) (m nc n base : Nat) (S : Nat → ByteArray) (l l2 cB c2 : Int) (we we2 : Bool) (w : World) (hm : 0 < m) (hn : 0 < n) (hnl : n ≤ 4096) (hS : Subs base w (.slice va vl vc) n S)
    (hB : Blk w tg 46 #[.pointer none, .slice none 0 0, .slice none 0 0, .int .i32 l, .int .u8 cB, .bool we]) :
    Calls Try.prog 22 #[.pointer (some ⟨tg, 0, none⟩), .agg #[.pointer none, .slice va vl vc, .slice na m nc, .int .i32 l2, .int .u8 c2, .bool we2]] w (Mb w.heap.size tg none n m S l cB we w) := by
  have hlt := hB.lt
  obtain ⟨gs, cap0, -, hv, -⟩ := hS.cells hn
  simp only [Value.slice.injEq] at hv
  obtain ⟨rfl, rfl, rfl⟩ := hv
  have c0 : w.cell? ⟨tg, 0, none⟩ = some (.pointer none) := hB.cell 0
  have f0 : w.frozen? ⟨tg, 0, none⟩ = false := hB.frozen 0
  have c1 : w.cell? ⟨tg, 1, none⟩ = some (.slice none 0 0) := hB.cell 1
  have f1 : w.frozen? ⟨tg, 1, none⟩ = false := hB.frozen 1
  have c2_ : w.cell? ⟨tg, 2, none⟩ = some (.slice none 0 0) := hB.cell 2
  have f2 : w.frozen? ⟨tg, 2, none⟩ = false := hB.frozen 2
  have n1 : ¬ tg = w.heap.size := by omega
  have n2 : ¬ w.heap.size = tg := by omega
  have hm1 : (0 : Int) < (m : Int) := by omega
  obtain ⟨i0, hi, hz0, hz1, hz2⟩ := info_parts info68
  have BX := Lib.hid (show Blk ((w.setCell ⟨tg, 2, none⟩ (.slice na m nc)).alloc (.cells #[.pointer none, .slice (some ⟨gs, 0, none⟩) vl vc, .slice na m nc, .int .i32 l2, .int .u8 c2, .bool we2] 46)) tg 46 #[.pointer none, .slice none 0 0, .slice na m nc, .int .i32 l, .int .u8 cB, .bool we] from ((hB.set_ 2 (.slice na m nc))).alloc _)
  have KX := Lib.hid (show Kept w.heap.size tg w ((w.setCell ⟨tg, 2, none⟩ (.slice na m nc)).alloc (.cells #[.pointer none, .slice (some ⟨gs, 0, none⟩) vl vc, .slice na m nc, .int .i32 l2, .int .u8 c2, .bool we2] 46)) from (((Kept.refl w.heap.size tg w).setCell 2 _)).alloc (by simp) _)
  have XX := Lib.hid (show Blk ((w.setCell ⟨tg, 2, none⟩ (.slice na m nc)).alloc (.cells #[.pointer none, .slice (some ⟨gs, 0, none⟩) vl vc, .slice na m nc, .int .i32 l2, .int .u8 c2, .bool we2] 46)) w.heap.size 46 #[.pointer none, .slice (some ⟨gs, 0, none⟩) vl vc, .slice na m nc, .int .i32 l2, .int .u8 c2, .bool we2] from by have h := Blk.new (w.setCell ⟨tg, 2, none⟩ (.slice na m nc)) 46 #[.pointer none, .slice (some ⟨gs, 0, none⟩) vl vc, .slice na m nc, .int .i32 l2, .int .u8 c2, .bool we2]; simpa using h)
  have SX := Lib.hid (show Subs base ((w.setCell ⟨tg, 2, none⟩ (.slice na m nc)).alloc (.cells #[.pointer none, .slice (some ⟨gs, 0, none⟩) vl vc, .slice na m nc, .int .i32 l2, .int .u8 c2, .bool we2] 46)) (.slice (some ⟨gs, 0, none⟩) vl vc) vl S from ((hS.far hB (by decide) (by decide) (.slice na m nc))).below ((Below.refl _ _).alloc (Nat.le_refl _) _))
  have NX : Hid (NsV (.slice na m nc) m) := Lib.hid ⟨_, _, rfl⟩
  clear hB hS
  go_enter Try.func22, Try.ntmps22
  go_upto_region 7 with fail
  clear c0 f0 c1 f1 c2_ f2
  generalize (w.setCell ⟨tg, 2, none⟩ (.slice na m nc)).alloc (.cells #[.pointer none, .slice (some ⟨gs, 0, none⟩) vl vc, .slice na m nc, .int .i32 l2, .int .u8 c2, .bool we2] 46) = W at *
  have y1 : W.cell? ⟨tg, 1, none⟩ = some (.slice none 0 0) := BX.out.cell 1
  have z1 : W.frozen? ⟨tg, 1, none⟩ = false := BX.out.frozen 1
  have y2 : W.cell? ⟨w.heap.size, 1, none⟩ = some (.slice (some ⟨gs, 0, none⟩) vl vc) := XX.out.cell 1
  obtain ⟨P, hown, hP⟩ := SX.out
  have OP := Lib.hid hP
  have OW := Lib.hid hown
  have HN := Lib.hid (hown.cells (g := gs) rfl)
  have KS := Lib.hid (KX.out.size)
  clear hown hP
  go_region_law (first
    | (refine step_append_lies _ (by rfl) _ _ _ (by rfl) w.heap.size 68 i0 _ 3 24 Try.underlying39 hi hz0 hz1 hz2 rfl (by omega) (.slice none 0 0) 0 [] (by rfl) (World.ownsRow_nil _ _ _ _) ⟨gs, 0, none⟩ vl vc (els P vl) (by rfl) (els_len P vl) (fun j u hj => HN.out j u hj) (els_one P vl) (by omega) (by unfold maxLen; omega) (by omega) KS.out W.heap.size (by rfl) ?_; intro gg cap w10 hown1 hgrow hat hlt9; have LN := Lib.hid (mb_end (tp := none) (m := m) (l := l) (cB := cB) (we := we) (Nat.le_refl _) BX.out KX.out OP.out NX.out hgrow hown1); have y9 := hgrow.cell (a := ⟨tg, 1, none⟩) (v := .slice none 0 0) y1 (by simp [Value.ownBlock]); have z9 := (hgrow.frozen_far ⟨tg, 1, none⟩ (show tg < W.drew.heap.size from BX.out.lt) (by simp [Value.ownBlock])).trans z1; clear hown1 hgrow hat hlt9))
  all_goals
    refine bodyPost_end (results_none rfl _ _ _) rfl ?_
    exact LN.out
set_option maxRecDepth 100000 in
set_option maxHeartbeats 4000000 in
theorem merge_b6 (tg : Nat) (ta : Addr) (va : Option Addr) (vl vc : Nat) (na : Option Addr) (m nc n base : Nat) (S : Nat → ByteArray) (l l2 cB c2 : Int) (we we2 : Bool) (w : World) (hm : m = 0) (hn : 0 < n) (hnl : n ≤ 4096) (hS : Subs base w (.slice va vl vc) n S)
    (hB : Blk w tg 46 #[.pointer none, .slice none 0 0, .slice none 0 0, .int .i32 l, .int .u8 cB, .bool we]) :
    Calls Try.prog 22 #[.pointer (some ⟨tg, 0, none⟩), .agg #[.pointer (some ta), .slice va vl vc, .slice na m nc, .int .i32 l2, .int .u8 c2, .bool we2]] w (Mb w.heap.size tg (some ta) n m S l cB we w) := by
  have hlt := hB.lt
  obtain ⟨gs, cap0, -, hv, -⟩ := hS.cells hn
  simp only [Value.slice.injEq] at hv
  obtain ⟨rfl, rfl, rfl⟩ := hv
  have c0 : w.cell? ⟨tg, 0, none⟩ = some (.pointer none) := hB.cell 0
  have f0 : w.frozen? ⟨tg, 0, none⟩ = false := hB.frozen 0
  have c1 : w.cell? ⟨tg, 1, none⟩ = some (.slice none 0 0) := hB.cell 1
  have f1 : w.frozen? ⟨tg, 1, none⟩ = false := hB.frozen 1
  have c2_ : w.cell? ⟨tg, 2, none⟩ = some (.slice none 0 0) := hB.cell 2
  have f2 : w.frozen? ⟨tg, 2, none⟩ = false := hB.frozen 2
  have n1 : ¬ tg = w.heap.size := by omega
  have n2 : ¬ w.heap.size = tg := by omega
  subst hm
  obtain ⟨i0, hi, hz0, hz1, hz2⟩ := info_parts info68
  have BX := Lib.hid (show Blk (((w).setCell ⟨tg, 0, none⟩ (.pointer (some ta))).alloc (.cells #[.pointer (some ta), .slice (some ⟨gs, 0, none⟩) vl vc, .slice na 0 nc, .int .i32 l2, .int .u8 c2, .bool we2] 46)) tg 46 #[.pointer (some ta), .slice none 0 0, .slice none 0 0, .int .i32 l, .int .u8 cB, .bool we] from ((hB.set_ 0 (.pointer (some ta)))).alloc _)
  have KX := Lib.hid (show Kept w.heap.size tg w (((w).setCell ⟨tg, 0, none⟩ (.pointer (some ta))).alloc (.cells #[.pointer (some ta), .slice (some ⟨gs, 0, none⟩) vl vc, .slice na 0 nc, .int .i32 l2, .int .u8 c2, .bool we2] 46)) from (((Kept.refl w.heap.size tg w).setCell 0 _)).alloc (by simp) _)
  have XX := Lib.hid (show Blk (((w).setCell ⟨tg, 0, none⟩ (.pointer (some ta))).alloc (.cells #[.pointer (some ta), .slice (some ⟨gs, 0, none⟩) vl vc, .slice na 0 nc, .int .i32 l2, .int .u8 c2, .bool we2] 46)) w.heap.size 46 #[.pointer (some ta), .slice (some ⟨gs, 0, none⟩) vl vc, .slice na 0 nc, .int .i32 l2, .int .u8 c2, .bool we2] from by have h := Blk.new ((w).setCell ⟨tg, 0, none⟩ (.pointer (some ta))) 46 #[.pointer (some ta), .slice (some ⟨gs, 0, none⟩) vl vc, .slice na 0 nc, .int .i32 l2, .int .u8 c2, .bool we2]; simpa using h)
  have SX := Lib.hid (show Subs base (((w).setCell ⟨tg, 0, none⟩ (.pointer (some ta))).alloc (.cells #[.pointer (some ta), .slice (some ⟨gs, 0, none⟩) vl vc, .slice na 0 nc, .int .i32 l2, .int .u8 c2, .bool we2] 46)) (.slice (some ⟨gs, 0, none⟩) vl vc) vl S from ((hS.far hB (by decide) (by decide) (.pointer (some ta)))).below ((Below.refl _ _).alloc (Nat.le_refl _) _))
  have NX : Hid (NsV (.slice none 0 0) 0) := Lib.hid ⟨none, 0, rfl⟩
  clear hB hS
  go_enter Try.func22, Try.ntmps22
  go_upto_region 7 with fail
  clear c0 f0 c1 f1 c2_ f2
  generalize ((w).setCell ⟨tg, 0, none⟩ (.pointer (some ta))).alloc (.cells #[.pointer (some ta), .slice (some ⟨gs, 0, none⟩) vl vc, .slice na 0 nc, .int .i32 l2, .int .u8 c2, .bool we2] 46) = W at *
  have y1 : W.cell? ⟨tg, 1, none⟩ = some (.slice none 0 0) := BX.out.cell 1
  have z1 : W.frozen? ⟨tg, 1, none⟩ = false := BX.out.frozen 1
  have y2 : W.cell? ⟨w.heap.size, 1, none⟩ = some (.slice (some ⟨gs, 0, none⟩) vl vc) := XX.out.cell 1
  obtain ⟨P, hown, hP⟩ := SX.out
  have OP := Lib.hid hP
  have OW := Lib.hid hown
  have HN := Lib.hid (hown.cells (g := gs) rfl)
  have KS := Lib.hid (KX.out.size)
  clear hown hP
  go_region_law (first
    | (refine step_append_lies _ (by rfl) _ _ _ (by rfl) w.heap.size 68 i0 _ 3 24 Try.underlying39 hi hz0 hz1 hz2 rfl (by omega) (.slice none 0 0) 0 [] (by rfl) (World.ownsRow_nil _ _ _ _) ⟨gs, 0, none⟩ vl vc (els P vl) (by rfl) (els_len P vl) (fun j u hj => HN.out j u hj) (els_one P vl) (by omega) (by unfold maxLen; omega) (by omega) KS.out W.heap.size (by rfl) ?_; intro gg cap w10 hown1 hgrow hat hlt9; have LN := Lib.hid (mb_end (tp := (some ta)) (m := 0) (l := l) (cB := cB) (we := we) (Nat.le_refl _) BX.out KX.out OP.out NX.out hgrow hown1); have y9 := hgrow.cell (a := ⟨tg, 1, none⟩) (v := .slice none 0 0) y1 (by simp [Value.ownBlock]); have z9 := (hgrow.frozen_far ⟨tg, 1, none⟩ (show tg < W.drew.heap.size from BX.out.lt) (by simp [Value.ownBlock])).trans z1; clear hown1 hgrow hat hlt9))
  all_goals
    refine bodyPost_end (results_none rfl _ _ _) rfl ?_
    exact LN.out
set_option maxRecDepth 100000 in
set_option maxHeartbeats 4000000 in
theorem merge_b7 (tg : Nat) (ta : Addr) (va : Option Addr) (vl vc : Nat) (na : Option Addr) (m nc n base : Nat) (S : Nat → ByteArray) (l l2 cB c2 : Int) (we we2 : Bool) (w : World) (hm : 0 < m) (hn : 0 < n) (hnl : n ≤ 4096) (hS : Subs base w (.slice va vl vc) n S)
    (hB : Blk w tg 46 #[.pointer none, .slice none 0 0, .slice none 0 0, .int .i32 l, .int .u8 cB, .bool we]) :
    Calls Try.prog 22 #[.pointer (some ⟨tg, 0, none⟩), .agg #[.pointer (some ta), .slice va vl vc, .slice na m nc, .int .i32 l2, .int .u8 c2, .bool we2]] w (Mb w.heap.size tg (some ta) n m S l cB we w) := by
  have hlt := hB.lt
  obtain ⟨gs, cap0, -, hv, -⟩ := hS.cells hn
  simp only [Value.slice.injEq] at hv
  obtain ⟨rfl, rfl, rfl⟩ := hv
  have c0 : w.cell? ⟨tg, 0, none⟩ = some (.pointer none) := hB.cell 0
  have f0 : w.frozen? ⟨tg, 0, none⟩ = false := hB.frozen 0
  have c1 : w.cell? ⟨tg, 1, none⟩ = some (.slice none 0 0) := hB.cell 1
  have f1 : w.frozen? ⟨tg, 1, none⟩ = false := hB.frozen 1
  have c2_ : w.cell? ⟨tg, 2, none⟩ = some (.slice none 0 0) := hB.cell 2
  have f2 : w.frozen? ⟨tg, 2, none⟩ = false := hB.frozen 2
  have n1 : ¬ tg = w.heap.size := by omega
  have n2 : ¬ w.heap.size = tg := by omega
  have hm1 : (0 : Int) < (m : Int) := by omega
  obtain ⟨i0, hi, hz0, hz1, hz2⟩ := info_parts info68
  have BX := Lib.hid (show Blk (((w.setCell ⟨tg, 2, none⟩ (.slice na m nc)).setCell ⟨tg, 0, none⟩ (.pointer (some ta))).alloc (.cells #[.pointer (some ta), .slice (some ⟨gs, 0, none⟩) vl vc, .slice na m nc, .int .i32 l2, .int .u8 c2, .bool we2] 46)) tg 46 #[.pointer (some ta), .slice none 0 0, .slice na m nc, .int .i32 l, .int .u8 cB, .bool we] from (((hB.set_ 2 (.slice na m nc)).set_ 0 (.pointer (some ta)))).alloc _)
  have KX := Lib.hid (show Kept w.heap.size tg w (((w.setCell ⟨tg, 2, none⟩ (.slice na m nc)).setCell ⟨tg, 0, none⟩ (.pointer (some ta))).alloc (.cells #[.pointer (some ta), .slice (some ⟨gs, 0, none⟩) vl vc, .slice na m nc, .int .i32 l2, .int .u8 c2, .bool we2] 46)) from ((((Kept.refl w.heap.size tg w).setCell 2 _).setCell 0 _)).alloc (by simp) _)
  have XX := Lib.hid (show Blk (((w.setCell ⟨tg, 2, none⟩ (.slice na m nc)).setCell ⟨tg, 0, none⟩ (.pointer (some ta))).alloc (.cells #[.pointer (some ta), .slice (some ⟨gs, 0, none⟩) vl vc, .slice na m nc, .int .i32 l2, .int .u8 c2, .bool we2] 46)) w.heap.size 46 #[.pointer (some ta), .slice (some ⟨gs, 0, none⟩) vl vc, .slice na m nc, .int .i32 l2, .int .u8 c2, .bool we2] from by have h := Blk.new ((w.setCell ⟨tg, 2, none⟩ (.slice na m nc)).setCell ⟨tg, 0, none⟩ (.pointer (some ta))) 46 #[.pointer (some ta), .slice (some ⟨gs, 0, none⟩) vl vc, .slice na m nc, .int .i32 l2, .int .u8 c2, .bool we2]; simpa using h)
  have SX := Lib.hid (show Subs base (((w.setCell ⟨tg, 2, none⟩ (.slice na m nc)).setCell ⟨tg, 0, none⟩ (.pointer (some ta))).alloc (.cells #[.pointer (some ta), .slice (some ⟨gs, 0, none⟩) vl vc, .slice na m nc, .int .i32 l2, .int .u8 c2, .bool we2] 46)) (.slice (some ⟨gs, 0, none⟩) vl vc) vl S from (((hS.far hB (by decide) (by decide) (.slice na m nc)).far (hB.set_ 2 (.slice na m nc)) (by decide) (by decide) (.pointer (some ta)))).below ((Below.refl _ _).alloc (Nat.le_refl _) _))
  have NX : Hid (NsV (.slice na m nc) m) := Lib.hid ⟨_, _, rfl⟩
  clear hB hS
  go_enter Try.func22, Try.ntmps22
  go_upto_region 7 with fail
  clear c0 f0 c1 f1 c2_ f2
  generalize ((w.setCell ⟨tg, 2, none⟩ (.slice na m nc)).setCell ⟨tg, 0, none⟩ (.pointer (some ta))).alloc (.cells #[.pointer (some ta), .slice (some ⟨gs, 0, none⟩) vl vc, .slice na m nc, .int .i32 l2, .int .u8 c2, .bool we2] 46) = W at *
  have y1 : W.cell? ⟨tg, 1, none⟩ = some (.slice none 0 0) := BX.out.cell 1
  have z1 : W.frozen? ⟨tg, 1, none⟩ = false := BX.out.frozen 1
  have y2 : W.cell? ⟨w.heap.size, 1, none⟩ = some (.slice (some ⟨gs, 0, none⟩) vl vc) := XX.out.cell 1
  obtain ⟨P, hown, hP⟩ := SX.out
  have OP := Lib.hid hP
  have OW := Lib.hid hown
  have HN := Lib.hid (hown.cells (g := gs) rfl)
  have KS := Lib.hid (KX.out.size)
  clear hown hP
  go_region_law (first
    | (refine step_append_lies _ (by rfl) _ _ _ (by rfl) w.heap.size 68 i0 _ 3 24 Try.underlying39 hi hz0 hz1 hz2 rfl (by omega) (.slice none 0 0) 0 [] (by rfl) (World.ownsRow_nil _ _ _ _) ⟨gs, 0, none⟩ vl vc (els P vl) (by rfl) (els_len P vl) (fun j u hj => HN.out j u hj) (els_one P vl) (by omega) (by unfold maxLen; omega) (by omega) KS.out W.heap.size (by rfl) ?_; intro gg cap w10 hown1 hgrow hat hlt9; have LN := Lib.hid (mb_end (tp := (some ta)) (m := m) (l := l) (cB := cB) (we := we) (Nat.le_refl _) BX.out KX.out OP.out NX.out hgrow hown1); have y9 := hgrow.cell (a := ⟨tg, 1, none⟩) (v := .slice none 0 0) y1 (by simp [Value.ownBlock]); have z9 := (hgrow.frozen_far ⟨tg, 1, none⟩ (show tg < W.drew.heap.size from BX.out.lt) (by simp [Value.ownBlock])).trans z1; clear hown1 hgrow hat hlt9))
  all_goals
    refine bodyPost_end (results_none rfl _ _ _) rfl ?_
    exact LN.out
end Go.Proofs.Ytdonfahjcejhpaa.MG
