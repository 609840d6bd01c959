/- zzBuildSub of n011_210, walked. -/
import Derived.Test.YtdonfahjcejhpaaNb
namespace Go.Proofs.Ytdonfahjcejhpaa.MG
open Go.RowKit Go.Proofs.Ytdonfahjcejhpaa.TB
set_option linter.unusedVariables false
/-- A subclass selector, built. -/
def SubAt (w : World) (x : Value) (z : ZS) : Prop :=
  if z.wr = true then ∃ g a n c, x = .iface 82 (.pointer (some ⟨g, 0, none⟩)) ∧ Blk w g 88 #[.slice a n c, .string ⟨#[]⟩, .string ⟨#[]⟩, .int .u8 (kd z.k)]
  else ∃ g, x = .iface 78 (.pointer (some ⟨g, 0, none⟩)) ∧ Blk w g 81 #[.string z.nm, .slice none 0 0, .bool false]
theorem SubAt.below {w w' : World} {x : Value} {z : ZS} (h : SubAt w x z) (hb : Below w.heap.size w w') : SubAt w' x z := by
  unfold SubAt at *
  split
  · rename_i e; rw [if_pos e] at h
    obtain ⟨g, a, n, c, e1, e2⟩ := h
    exact ⟨g, a, n, c, e1, e2.below hb e2.lt⟩
  · rename_i e; rw [if_neg e] at h
    obtain ⟨g, e1, e2⟩ := h
    exact ⟨g, e1, e2.below hb e2.lt⟩
theorem SubAt.far {w : World} {x : Value} {z : ZS} (h : SubAt w x z) {g o : Nat} {cs : Array Value} {t : TypeId} (hb : Blk w g t cs) (h1 : t ≠ 81) (h2 : t ≠ 88) (u : Value) : SubAt (w.setCell ⟨g, o, none⟩ u) x z := by
  unfold SubAt at *
  split
  · rename_i e; rw [if_pos e] at h
    obtain ⟨q, a, n, c, e1, e2⟩ := h
    refine ⟨q, a, n, c, e1, e2.far (fun e3 => ?_) _⟩
    simp only at e3
    unfold Blk at hb e2
    rw [e3, hb] at e2
    simp only [Option.some.injEq, Obj.cells.injEq] at e2
    exact h2 e2.2.1
  · rename_i e; rw [if_neg e] at h
    obtain ⟨q, e1, e2⟩ := h
    refine ⟨q, e1, e2.far (fun e3 => ?_) _⟩
    simp only at e3
    unfold Blk at hb e2
    rw [e3, hb] at e2
    simp only [Option.some.injEq, Obj.cells.injEq] at e2
    exact h1 e2.2.1
theorem SubAt.grown {w w1 : World} {x v : Value} {z : ZS} {o : Obj} {base t size n : Nat} {xs : List Value} (h : SubAt w x z) (hs : w.ownsRow base t size v n xs) (h1 : (81 : Nat) ≠ t) (h2 : (88 : Nat) ≠ t) (hgrow : (w.alloc o).grownBy w1 v.ownBlock) : SubAt w1 x z := by
  unfold SubAt at *
  split
  · rename_i e; rw [if_pos e] at h
    obtain ⟨q, a, n, c, e1, e2⟩ := h
    exact ⟨q, a, n, c, e1, (e2.alloc o).grown hgrow (fun e => own_ne hs e2 h2 e.symm)⟩
  · rename_i e; rw [if_neg e] at h
    obtain ⟨q, e1, e2⟩ := h
    exact ⟨q, e1, (e2.alloc o).grown hgrow (fun e => own_ne hs e2 h1 e.symm)⟩
/-- Its value is an interface. -/
theorem SubAt.one {w : World} {x : Value} {z : ZS} (h : SubAt w x z) : x.oneCell' = true := by
  unfold SubAt at h
  split at h
  · obtain ⟨q, a, n, c, rfl, -⟩ := h; rfl
  · obtain ⟨q, rfl, -⟩ := h; rfl
/-- While a subclass selector is built. -/
def BX (w : World) (z : ZS) (A : Option Addr) (c : Nat) (w' : World) : Prop :=
  Blk w' w.heap.size 58 #[.bool z.wr, .int .u8 z.k, .string z.nm, .slice A z.n c] ∧ Blk w' (w.heap.size + 1) 68 #[.nilIface, .int .i32 0, .int .i32 0] ∧ Below w.heap.size w w'
theorem BX.step {w w1 w2 : World} {z : ZS} {A : Option Addr} {c : Nat} (h : BX w z A c w1) (hb : Below w1.heap.size w1 w2) : BX w z A c w2 :=
  ⟨h.1.below hb h.1.lt, h.2.1.below hb h.2.1.lt, h.2.2.trans (hb.mono h.2.2.size)⟩
theorem BX.start (w : World) (z : ZS) (A : Option Addr) (c : Nat) : BX w z A c ((w.alloc (.cells #[.bool z.wr, .int .u8 z.k, .string z.nm, .slice A z.n c] 58)).alloc (.cells #[.nilIface, .int .i32 0, .int .i32 0] 68)) := by
  refine ⟨(Blk.new w 58 _).alloc _, ?_, ((Below.refl _ _).alloc (Nat.le_refl _) _).alloc (by simp) _⟩
  have h := Blk.new (w.alloc (.cells #[.bool z.wr, .int .u8 z.k, .string z.nm, .slice A z.n c] 58)) 68 #[.nilIface, .int .i32 0, .int .i32 0]
  simpa using h
/-- What zzBuildSub answers. -/
def BSR (w : World) (z : ZS) (e : Ending) (w' : World) : Prop := ∃ x, e = .returned (.agg #[x, .int .i32 0, .int .i32 0]) ∧ SubAt w' x z ∧ Below w.heap.size w w'
theorem BX.done {w w1 : World} {z : ZS} {A : Option Addr} {c : Nat} {x : Value} (h : BX w z A c w1) (hx : SubAt w1 x z) :
    let w' := ((w1.setCell ⟨w.heap.size + 1, 0, none⟩ x).setCell ⟨w.heap.size + 1, 1, none⟩ (.int .i32 0)).setCell ⟨w.heap.size + 1, 2, none⟩ (.int .i32 0)
    Blk w' (w.heap.size + 1) 68 #[x, .int .i32 0, .int .i32 0] ∧ SubAt w' x z ∧ Below w.heap.size w w' := by
  have L : w.heap.size ≤ w.heap.size + 1 := by omega
  have h0 := ((h.2.1.set_ 0 x).set_ 1 (.int .i32 0)).set_ 2 (.int .i32 0)
  simp only [List.setIfInBounds_toArray, List.set_cons_zero, List.set_cons_succ] at h0
  exact ⟨h0, ((hx.far h.2.1 (by decide) (by decide) _).far (h.2.1.set_ 0 x) (by decide) (by decide) _).far ((h.2.1.set_ 0 x).set_ 1 (.int .i32 0)) (by decide) (by decide) _,
    ((h.2.2.setCell L _).setCell L _).setCell L _⟩
set_option maxRecDepth 100000 in
set_option maxHeartbeats 4000000 in
theorem sub19 (z : ZS) (A : Option Addr) (c : Nat) (w : World) (hz : WS z) (hB : BS z) (hI : Iv w (.slice A z.n c) z.n z.s) :
    Calls Try.prog 19 #[.agg #[.bool z.wr, .int .u8 z.k, .string z.nm, .slice A z.n c]] w (BSR w z) := by
  obtain ⟨wr, k, nm, n, s⟩ := z
  have D0 := Lib.hid (BX.start w ⟨wr, k, nm, n, s⟩ A c)
  obtain ⟨k0, k1, -⟩ := hz
  obtain ⟨n0, hB⟩ := hB
  simp only at k0 k1 n0 hB
  have HB := Lib.hid hB
  have HI := Lib.hid hI
  have ST := Lib.hid (fun w1 w2 (hc : Hid (BX w ⟨wr, k, nm, n, s⟩ A c w1)) (hb : Below w1.heap.size w1 w2) => hc.out.step hb)
  have DN := Lib.hid (fun w1 x (hc : Hid (BX w ⟨wr, k, nm, n, s⟩ A c w1)) (hx : SubAt w1 x ⟨wr, k, nm, n, s⟩) => hc.out.done hx)
  clear hB hI
  cases wr with
  | false =>
    go_enter Try.func19, Try.ntmps19
    go_upto_region 3 with fail
    generalize ((w.alloc (.cells #[.bool false, .int .u8 k, .string nm, .slice A n c] 58)).alloc (.cells #[.nilIface, .int .i32 0, .int .i32 0] 68)) = W0 at *
    have x2 : W0.cell? ⟨w.heap.size, 2, none⟩ = some (.string nm) := D0.out.1.cell 2
    go_wp2_with fail
    refine (bare20 _ _).mono ?_
    rintro e w1 ⟨g, rfl, hg, hb, hge⟩
    have D1 := Lib.hid (ST.out _ _ D0 hb)
    have HD := Lib.hid (DN.out _ (.iface 78 (.pointer (some ⟨g, 0, none⟩))) D1 (by unfold SubAt; simp only [Bool.false_eq_true, if_false]; exact ⟨g, rfl, hg⟩))
    clear hg hb hge D0 x2
    have y0 : w1.cell? ⟨w.heap.size + 1, 0, none⟩ = some .nilIface := D1.out.2.1.cell 0
    have y1 : w1.cell? ⟨w.heap.size + 1, 1, none⟩ = some (.int .i32 0) := D1.out.2.1.cell 1
    have y2 : w1.cell? ⟨w.heap.size + 1, 2, none⟩ = some (.int .i32 0) := D1.out.2.1.cell 2
    have f0 : w1.frozen? ⟨w.heap.size + 1, 0, none⟩ = false := D1.out.2.1.frozen 0
    have f1 : w1.frozen? ⟨w.heap.size + 1, 1, none⟩ = false := D1.out.2.1.frozen 1
    have f2 : w1.frozen? ⟨w.heap.size + 1, 2, none⟩ = false := D1.out.2.1.frozen 2
    go_wp2_with fail
    clear y0 y1 y2 f0 f1 f2 D1
    have hd := HD.out
    clear HD
    generalize ((w1.setCell ⟨w.heap.size + 1, 0, none⟩ (.iface 78 (.pointer (some ⟨g, 0, none⟩)))).setCell ⟨w.heap.size + 1, 1, none⟩ (.int .i32 0)).setCell ⟨w.heap.size + 1, 2, none⟩ (.int .i32 0) = W9 at *
    obtain ⟨u0, u1, u2⟩ := hd
    have y0 : W9.cell? ⟨w.heap.size + 1, 0, none⟩ = some (.iface 78 (.pointer (some ⟨g, 0, none⟩))) := u0.cell 0
    have y1 : W9.cell? ⟨w.heap.size + 1, 1, none⟩ = some (.int .i32 0) := u0.cell 1
    have y2 : W9.cell? ⟨w.heap.size + 1, 2, none⟩ = some (.int .i32 0) := u0.cell 2
    refine bodyPost_ret (v := .agg #[.iface 78 (.pointer (some ⟨g, 0, none⟩)), .int .i32 0, .int .i32 0]) (by simp [results, Try.results19, go_sem, y0, y1, y2]; done) rfl ?_
    exact ⟨_, rfl, u1, u2⟩
  | true =>
    go_enter Try.func19, Try.ntmps19
    go_upto_region 2 with fail
    generalize ((w.alloc (.cells #[.bool true, .int .u8 k, .string nm, .slice A n c] 58)).alloc (.cells #[.nilIface, .int .i32 0, .int .i32 0] 68)) = W0 at *
    have D1 := Lib.hid (ST.out _ _ D0 (Below.refl _ _).drew)
    have IV := Lib.hid (fun w' (hb : Below w.heap.size w w') => show Iv w' (.slice A n c) n s from HI.out.below hb)
    clear HI D0
    have x1 : W0.drew.cell? ⟨w.heap.size, 1, none⟩ = some (.int .u8 k) := D1.out.1.cell 1
    have x3 : W0.drew.cell? ⟨w.heap.size, 3, none⟩ = some (.slice A n c) := D1.out.1.cell 3
    go_region_with (first
      | (go_at_call 25; refine (kind25 _ _ k0 k1).mono ?_; rintro e w' ⟨rfl, rfl⟩)
      | (go_at_call 26; refine (inner26 A n c s _ n0 (IV.out _ (Hid.out (by assumption : Hid (BX _ _ _ _ _))).2.2) HB.out).mono ?_; rintro e w5 ⟨ia, il, ic, rfl, hb5⟩; have D5 := Lib.hid (ST.out _ _ (by assumption) hb5); have z1 : w5.cell? ⟨w.heap.size, 1, none⟩ = some (.int .u8 k) := D5.out.1.cell 1; clear hb5)
      | (go_at_call 24; refine (wrap24 _ _ _ _ _).mono ?_; rintro e w6 ⟨g, rfl, hg, hb6, hge⟩; have D6 := Lib.hid (ST.out _ _ (by assumption) hb6); have HD := Lib.hid (DN.out _ (.iface 82 (.pointer (some ⟨g, 0, none⟩))) D6 (by unfold SubAt; simp only [if_true]; exact ⟨g, _, _, _, rfl, hg⟩)); have y0 : w6.cell? ⟨w.heap.size + 1, 0, none⟩ = some .nilIface := D6.out.2.1.cell 0; have y1 : w6.cell? ⟨w.heap.size + 1, 1, none⟩ = some (.int .i32 0) := D6.out.2.1.cell 1; have y2 : w6.cell? ⟨w.heap.size + 1, 2, none⟩ = some (.int .i32 0) := D6.out.2.1.cell 2; have f0 : w6.frozen? ⟨w.heap.size + 1, 0, none⟩ = false := D6.out.2.1.frozen 0; have f1 : w6.frozen? ⟨w.heap.size + 1, 1, none⟩ = false := D6.out.2.1.frozen 1; have f2 : w6.frozen? ⟨w.heap.size + 1, 2, none⟩ = false := D6.out.2.1.frozen 2; clear hg hb6 hge))
    all_goals
      go_wp2_with fail
      clear y0 y1 y2 f0 f1 f2 D6
      have hd := HD.out
      clear HD
      generalize ((w6.setCell ⟨w.heap.size + 1, 0, none⟩ (.iface 82 (.pointer (some ⟨g, 0, none⟩)))).setCell ⟨w.heap.size + 1, 1, none⟩ (.int .i32 0)).setCell ⟨w.heap.size + 1, 2, none⟩ (.int .i32 0) = W9 at *
      obtain ⟨u0, u1, u2⟩ := hd
      have y0 : W9.cell? ⟨w.heap.size + 1, 0, none⟩ = some (.iface 82 (.pointer (some ⟨g, 0, none⟩))) := u0.cell 0
      have y1 : W9.cell? ⟨w.heap.size + 1, 1, none⟩ = some (.int .i32 0) := u0.cell 1
      have y2 : W9.cell? ⟨w.heap.size + 1, 2, none⟩ = some (.int .i32 0) := u0.cell 2
      refine bodyPost_ret (v := .agg #[.iface 82 (.pointer (some ⟨g, 0, none⟩)), .int .i32 0, .int .i32 0]) (by simp [results, Try.results19, go_sem, y0, y1, y2]; done) rfl ?_
      exact ⟨_, rfl, u1, u2⟩
end Go.Proofs.Ytdonfahjcejhpaa.MG
