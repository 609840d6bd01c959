/- mangleCorner: a good longhand. -/
import Derived.Test.YtnolnlekdlfeaaaDoorJb
namespace Go.Proofs.YtnolnlekdlfeaaaDoor.ZT
open Go.RowKit Go.Proofs.YtnolnlekdlfeaaaDoor.TB
set_option linter.unusedVariables false
def rs (im ib : Bool) (S : Nat → Cn) : Nat → Cn := if im = ib then S else fun _ => C0
/-- What mangleCorner works on. -/
structure MG (w0 : World) (g d gv : Nat) (S : Nat → Cn) (im ib : Bool) (T : ByteArray) (K : Int) (V : Value) (W : World) : Prop where
  t : Tk W g S im
  d : Blk W d 40 #[.string ⟨#[]⟩, V, .int .i32 0, .int .i32 0, .int .u16 0, .bool ib]
  v : Blk W gv 47 #[.pointer none, .string T, .int .i32 0, .int .u32 0, .int .u16 0, .int .u8 K, .int .u8 0]
  k : Kept w0.heap.size g w0 W
  s : w0.heap.size ≤ W.heap.size
section
variable {w0 W W' : World} {g d gv : Nat} {S : Nat → Cn} {im ib : Bool} {T : ByteArray} {K : Int} {V : Value}
theorem MG.below (h : MG w0 g d gv S im ib T K V W) (hb : Below W.heap.size W W') : MG w0 g d gv S im ib T K V W' :=
  ⟨h.t.below hb, h.d.below hb h.d.lt, h.v.below hb h.v.lt, h.k.next h.s hb, Nat.le_trans h.s hb.size⟩
theorem setCells_size (w : World) (b : Nat) (vs : List Value) : ∀ o, (w.setCells b o vs).heap.size = w.heap.size := by
  induction vs generalizing w with
  | nil => intro o; rfl
  | cons v r ih => intro o; rw [World.setCells, ih]; simp
theorem MG.drewN (h : MG w0 g d gv S im ib T K V W) (n : Nat) : MG w0 g d gv S im ib T K V (W.drewN n) :=
  ⟨Tab.drewN h.t n, h.d.drewN n, h.v.drewN n, h.k.next h.s ⟨rfl, rfl, rfl, Nat.le_refl _, fun _ _ => rfl⟩, h.s⟩
theorem MG.reset (h : MG w0 g d gv S im ib T K V W) (h1 : d ≠ g) (h2 : gv ≠ g) : MG w0 g d gv (fun _ => C0) ib ib T K V ((W.setCells g 0 zl).setCell ⟨g, 72, none⟩ (.bool ib)) := by
  refine ⟨(h.t.reset).setIm ib, ?_, ?_, (kept_setCells h.k zl 0).setCell _ _, ?_⟩
  · exact Blk.far (p := ⟨g, 72, none⟩) (show Blk (W.setCells g 0 zl) d 40 _ from (heap_setCells W g zl 0 d h1).trans h.d) h1 _
  · exact Blk.far (p := ⟨g, 72, none⟩) (show Blk (W.setCells g 0 zl) gv 47 _ from (heap_setCells W g zl 0 gv h2).trans h.v) h2 _
  · simp [setCells_size]; exact h.s
end
theorem zl_one : zl.toArray.all (·.oneCell') = true := all_oneCell_toArray (fun v hv => by
  simp only [zl, List.mem_append] at hv
  rcases hv with ((h | h) | h) | h <;> exact cl_one C0 v h)
set_option maxRecDepth 100000 in
set_option maxHeartbeats 8000000 in
theorem mangle22 (g d gv k n c cv : Nat) (A : Option Addr) (mw : Bool) (S : Nat → Cn) (im ib : Bool) (T : ByteArray) (K : Int) (w : World) (hk : k < 4) (h : MG w g d gv S im ib T K (.slice (some ⟨gv, 0, none⟩) 1 cv) w) (hdg : d ≠ g) (hvg : gv ≠ g)
    (hK : K = 34 ∨ (K = 30 ∧ T = ⟨#[48]⟩)) (hn : 1 ≤ n) (hn5 : n ≤ 5) (hcv : 1 ≤ cv) (h0 : (rs im ib S k).k = 0) (hlast : ∃ j, j < 4 ∧ (upS (rs im ib S) k ⟨T, K, T, K, ⟨#[]⟩, 0, (n : Int) - 1, true⟩ j).k = 0) :
    Calls Tryd.prog 22 #[.pointer (some ⟨g, 0, none⟩), .slice A n c, .pointer (some ⟨d, 0, none⟩), .bool mw, .int .i64 k] w fun e w' =>
      e = .returned (.tuple #[]) ∧ Tk w' g (upS (rs im ib S) k ⟨T, K, T, K, ⟨#[]⟩, 0, (n : Int) - 1, true⟩) ib ∧ Kept w.heap.size g w w' := by
  have M0 := Lib.hid h
  have e72 : w.cell? ⟨g, 72, none⟩ = some (.bool im) := h.t.imp
  have d5 : w.cell? ⟨d, 5, none⟩ = some (.bool ib) := h.d.cell 5
  have H0 := Lib.hid h0
  have HL := Lib.hid hlast
  have HK := Lib.hid hK
  have hi76 : (Tryd.prog.info? 76).map (·.size) = some zl.toArray.size := by kernel_rfl
  have hth := Lib.hid (show w.drew.there g 0 zl.toArray.size from fun j hj => ⟨by
    have hj' : j < 72 := hj
    show ((w.cell? ⟨g, 0 + j, none⟩).isSome) = true
    rw [Nat.zero_add, h.t.cell (by omega)]; rfl, h.t.frozen _⟩)
  clear h h0 hlast hK
  by_cases hq : im = ib
  case' pos =>
    subst hq
    have e1 : (!im == im) = false := by cases im <;> rfl
    have HR := Lib.hid (show rs im im S = S from if_pos rfl)
    go_enter Tryd.func22, Tryd.ntmps22
    go_wp2_with fail
    go_quiet (fail)
    go_upto_region 3 with fail
    generalize hW : w.drewN _ = W1
    have M1 : Hid (MG w g d gv (rs im im S) im im T K (.slice (some ⟨gv, 0, none⟩) 1 cv) W1) := by rw [← hW, HR.out]; exact Lib.hid (M0.out.drewN _)
    clear hW e1 e72 d5 hth M0 HR
    obtain ⟨ib, hib⟩ : ∃ ib, im = ib := ⟨_, rfl⟩
    generalize hRS : rs im im S = S' at *
    have FIN := Lib.hid (fun (w' : World) (e : Ending) (he : e = .returned (.tuple #[])) (h1 : Tk w' g (upS S' k ⟨T, K, T, K, ⟨#[]⟩, 0, (n : Int) - 1, true⟩) ib) (h2 : Kept w.heap.size g w w') => show e = .returned (.tuple #[]) ∧ Tk w' g (upS (rs im im S) k ⟨T, K, T, K, ⟨#[]⟩, 0, (n : Int) - 1, true⟩) im ∧ Kept w.heap.size g w w' from ⟨he, by rw [hRS, hib]; exact h1, h2⟩)
    rw [hib] at M1
    clear hRS hib
  case' neg =>
    have e1 : (!im == ib) = true := by cases im <;> cases ib <;> first | rfl | exact absurd rfl hq
    have HR := Lib.hid (show rs im ib S = fun _ => C0 from if_neg hq)
    clear hq
    go_enter Tryd.func22, Tryd.ntmps22
    go_wp2_with fail
    go_quiet (fail)
    go_upto_region 1 with fail
    generalize hW : w.drewN _ = W0
    have M1 : Hid (MG w g d gv S im ib T K (.slice (some ⟨gv, 0, none⟩) 1 cv) W0) := by rw [← hW]; exact Lib.hid (M0.out.drewN _)
    clear hW e1 e72 d5 hth M0
    have hth : W0.there g 0 zl.toArray.size := fun j hj => ⟨by
      have hj' : j < 72 := hj
      rw [Nat.zero_add, M1.out.t.cell (by omega)]; rfl, M1.out.t.frozen _⟩
    go_upto_region 2 with (first
      | (refine wpList_store_mid (by rfl) 76 _ _ rfl g 0 zl.toArray rfl rfl hth hi76 zl_one ?_))
    have M2 := Lib.hid (M1.out.reset hdg hvg)
    have d5 : ((W0.setCells g 0 zl)).cell? ⟨d, 5, none⟩ = some (.bool ib) := by
      have := Blk.cell (show Blk (W0.setCells g 0 zl) d 40 _ from (heap_setCells W0 g zl 0 d hdg).trans M1.out.d) 5
      exact this
    have e72 : ((W0.setCells g 0 zl)).cell? ⟨g, 72, none⟩ = some (.bool im) := (M1.out.t.reset).imp
    have f72 : ((W0.setCells g 0 zl)).frozen? ⟨g, 72, none⟩ = false := (M1.out.t.reset).frozen _
    generalize W0.setCells g 0 zl = W00 at *
    go_upto_region 3 with fail
    clear d5 e72 f72 hth M1
    generalize W00.setCell ⟨g, 72, none⟩ (.bool ib) = W1 at *
    have M1 : Hid (MG w g d gv (rs im ib S) ib ib T K (.slice (some ⟨gv, 0, none⟩) 1 cv) W1) := by rw [HR.out]; exact M2
    clear M2 HR
    generalize hRS : rs im ib S = S' at *
    have FIN := Lib.hid (fun (w' : World) (e : Ending) (he : e = .returned (.tuple #[])) (h1 : Tk w' g (upS S' k ⟨T, K, T, K, ⟨#[]⟩, 0, (n : Int) - 1, true⟩) ib) (h2 : Kept w.heap.size g w w') => show e = .returned (.tuple #[]) ∧ Tk w' g (upS (rs im ib S) k ⟨T, K, T, K, ⟨#[]⟩, 0, (n : Int) - 1, true⟩) ib ∧ Kept w.heap.size g w w' from ⟨he, by rw [hRS]; exact h1, h2⟩)
    clear hRS
  all_goals
    have hnum : (K == 30 || (K == 34 || K == 26)) = true := by rcases HK.out with h | ⟨h, -⟩ <;> rw [h] <;> rfl
    have K26 := Lib.hid (show K ≠ 26 by have := HK.out; omega)
    have q1 : (1 : Int) ≤ (n : Int) := by omega
    have q2 : (n : Int) ≤ 5 := by omega
    have y1 : W1.cell? ⟨d, 1, none⟩ = some (.slice (some ⟨gv, 0, none⟩) 1 cv) := M1.out.d.cell 1
    have v0 : W1.cell? ⟨gv, 0, none⟩ = some (.pointer none) := M1.out.v.cell 0
    have v1 : W1.cell? ⟨gv, 1, none⟩ = some (.string T) := M1.out.v.cell 1
    have v2 : W1.cell? ⟨gv, 2, none⟩ = some (.int .i32 0) := M1.out.v.cell 2
    have v3 : W1.cell? ⟨gv, 3, none⟩ = some (.int .u32 0) := M1.out.v.cell 3
    have v4 : W1.cell? ⟨gv, 4, none⟩ = some (.int .u16 0) := M1.out.v.cell 4
    have v5 : W1.cell? ⟨gv, 5, none⟩ = some (.int .u8 K) := M1.out.v.cell 5
    have v6 : W1.cell? ⟨gv, 6, none⟩ = some (.int .u8 0) := M1.out.v.cell 6
    have B0 := Lib.hid (show Blk (((W1.alloc (.cells #[.pointer none, .string T, .int .i32 0, .int .u32 0, .int .u16 0, .int .u8 K, .int .u8 0] 47)).alloc (.cells #[.pointer none, .string T, .int .i32 0, .int .u32 0, .int .u16 0, .int .u8 K, .int .u8 0] 47)).alloc (.cells #[.string ⟨#[]⟩, .int .u8 0] 73)) W1.heap.size 47 #[.pointer none, .string T, .int .i32 0, .int .u32 0, .int .u16 0, .int .u8 K, .int .u8 0] ∧
        Blk (((W1.alloc (.cells #[.pointer none, .string T, .int .i32 0, .int .u32 0, .int .u16 0, .int .u8 K, .int .u8 0] 47)).alloc (.cells #[.pointer none, .string T, .int .i32 0, .int .u32 0, .int .u16 0, .int .u8 K, .int .u8 0] 47)).alloc (.cells #[.string ⟨#[]⟩, .int .u8 0] 73)) (W1.heap.size + 1) 47 #[.pointer none, .string T, .int .i32 0, .int .u32 0, .int .u16 0, .int .u8 K, .int .u8 0] ∧
        Blk (((W1.alloc (.cells #[.pointer none, .string T, .int .i32 0, .int .u32 0, .int .u16 0, .int .u8 K, .int .u8 0] 47)).alloc (.cells #[.pointer none, .string T, .int .i32 0, .int .u32 0, .int .u16 0, .int .u8 K, .int .u8 0] 47)).alloc (.cells #[.string ⟨#[]⟩, .int .u8 0] 73)) (W1.heap.size + 1 + 1) 73 #[.string ⟨#[]⟩, .int .u8 0] ∧
        Below W1.heap.size W1 (((W1.alloc (.cells #[.pointer none, .string T, .int .i32 0, .int .u32 0, .int .u16 0, .int .u8 K, .int .u8 0] 47)).alloc (.cells #[.pointer none, .string T, .int .i32 0, .int .u32 0, .int .u16 0, .int .u8 K, .int .u8 0] 47)).alloc (.cells #[.string ⟨#[]⟩, .int .u8 0] 73)) from
      ⟨((Blk.new W1 47 _).alloc _).alloc _, by simpa using (Blk.new (W1.alloc (.cells #[.pointer none, .string T, .int .i32 0, .int .u32 0, .int .u16 0, .int .u8 K, .int .u8 0] 47)) 47 #[.pointer none, .string T, .int .i32 0, .int .u32 0, .int .u16 0, .int .u8 K, .int .u8 0]).alloc (.cells #[.string ⟨#[]⟩, .int .u8 0] 73), by simpa using Blk.new ((W1.alloc (.cells #[.pointer none, .string T, .int .i32 0, .int .u32 0, .int .u16 0, .int .u8 K, .int .u8 0] 47)).alloc (.cells #[.pointer none, .string T, .int .i32 0, .int .u32 0, .int .u16 0, .int .u8 K, .int .u8 0] 47)) 73 #[.string ⟨#[]⟩, .int .u8 0],
        (((Below.refl _ _).alloc (Nat.le_refl _) _).alloc (by simp) _).alloc (by simp; omega) _⟩)
    go_upto_region 10 with (go_at_call 24; refine (num24 _ _).mono ?_; rintro e w' ⟨rfl, rfl⟩; rw [hnum])
    clear v0 v1 v2 v3 v4 v5 v6 y1 hnum
    have M2 := Lib.hid (M1.out.below B0.out.2.2.2)
    generalize hW2 : (((W1.alloc (.cells #[.pointer none, .string T, .int .i32 0, .int .u32 0, .int .u16 0, .int .u8 K, .int .u8 0] 47)).alloc (.cells #[.pointer none, .string T, .int .i32 0, .int .u32 0, .int .u16 0, .int .u8 K, .int .u8 0] 47)).alloc (.cells #[.string ⟨#[]⟩, .int .u8 0] 73)) = W2 at *
    generalize W1.heap.size = H at *
    clear hW2 M1
    have a0 : W2.cell? ⟨H, 0, none⟩ = some (.pointer none) := B0.out.1.cell 0
    have a1 : W2.cell? ⟨H, 1, none⟩ = some (.string T) := B0.out.1.cell 1
    have a2 : W2.cell? ⟨H, 2, none⟩ = some (.int .i32 0) := B0.out.1.cell 2
    have a3 : W2.cell? ⟨H, 3, none⟩ = some (.int .u32 0) := B0.out.1.cell 3
    have a4 : W2.cell? ⟨H, 4, none⟩ = some (.int .u16 0) := B0.out.1.cell 4
    have a5 : W2.cell? ⟨H, 5, none⟩ = some (.int .u8 K) := B0.out.1.cell 5
    have a6 : W2.cell? ⟨H, 6, none⟩ = some (.int .u8 0) := B0.out.1.cell 6
    go_wp2_with fail
    refine (inc25 _ T K _ HK.out).mono ?_
    rintro e W3 ⟨rfl, hb3⟩
    have M3 := Lib.hid (M2.out.below hb3)
    have B3 := Lib.hid (show Blk W3 H 47 #[.pointer none, .string T, .int .i32 0, .int .u32 0, .int .u16 0, .int .u8 K, .int .u8 0] ∧ Blk W3 (H + 1) 47 #[.pointer none, .string T, .int .i32 0, .int .u32 0, .int .u16 0, .int .u8 K, .int .u8 0] ∧ Blk W3 (H + 1 + 1) 73 #[.string ⟨#[]⟩, .int .u8 0] from ⟨B0.out.1.below hb3 B0.out.1.lt, B0.out.2.1.below hb3 B0.out.2.1.lt, B0.out.2.2.1.below hb3 B0.out.2.2.1.lt⟩)
    clear a0 a1 a2 a3 a4 a5 a6 hb3 M2 B0
    have a0 : W3.cell? ⟨H + 1, 0, none⟩ = some (.pointer none) := B3.out.2.1.cell 0
    have a1 : W3.cell? ⟨H + 1, 1, none⟩ = some (.string T) := B3.out.2.1.cell 1
    have a2 : W3.cell? ⟨H + 1, 2, none⟩ = some (.int .i32 0) := B3.out.2.1.cell 2
    have a3 : W3.cell? ⟨H + 1, 3, none⟩ = some (.int .u32 0) := B3.out.2.1.cell 3
    have a4 : W3.cell? ⟨H + 1, 4, none⟩ = some (.int .u16 0) := B3.out.2.1.cell 4
    have a5 : W3.cell? ⟨H + 1, 5, none⟩ = some (.int .u8 K) := B3.out.2.1.cell 5
    have a6 : W3.cell? ⟨H + 1, 6, none⟩ = some (.int .u8 0) := B3.out.2.1.cell 6
    go_wp2_with fail
    refine (inc25 _ T K _ HK.out).mono ?_
    rintro e W4 ⟨rfl, hb4⟩
    have M4 := Lib.hid (M3.out.below hb4)
    have B4 := Lib.hid (show Blk W4 H 47 #[.pointer none, .string T, .int .i32 0, .int .u32 0, .int .u16 0, .int .u8 K, .int .u8 0] ∧ Blk W4 (H + 1) 47 #[.pointer none, .string T, .int .i32 0, .int .u32 0, .int .u16 0, .int .u8 K, .int .u8 0] ∧ Blk W4 (H + 1 + 1) 73 #[.string ⟨#[]⟩, .int .u8 0] from ⟨B3.out.1.below hb4 B3.out.1.lt, B3.out.2.1.below hb4 B3.out.2.1.lt, B3.out.2.2.below hb4 B3.out.2.2.lt⟩)
    clear a0 a1 a2 a3 a4 a5 a6 hb4 M3 B3
    have u0 : W4.cell? ⟨H + 1 + 1, 0, none⟩ = some (.string ⟨#[]⟩) := B4.out.2.2.cell 0
    have u1 : W4.cell? ⟨H + 1 + 1, 1, none⟩ = some (.int .u8 0) := B4.out.2.2.cell 1
    have a0 : W4.cell? ⟨H, 0, none⟩ = some (.pointer none) := B4.out.1.cell 0
    have a1 : W4.cell? ⟨H, 1, none⟩ = some (.string T) := B4.out.1.cell 1
    have a2 : W4.cell? ⟨H, 2, none⟩ = some (.int .i32 0) := B4.out.1.cell 2
    have a3 : W4.cell? ⟨H, 3, none⟩ = some (.int .u32 0) := B4.out.1.cell 3
    have a4 : W4.cell? ⟨H, 4, none⟩ = some (.int .u16 0) := B4.out.1.cell 4
    have a5 : W4.cell? ⟨H, 5, none⟩ = some (.int .u8 K) := B4.out.1.cell 5
    have a6 : W4.cell? ⟨H, 6, none⟩ = some (.int .u8 0) := B4.out.1.cell 6
    have b0 : W4.cell? ⟨H + 1, 0, none⟩ = some (.pointer none) := B4.out.2.1.cell 0
    have b1 : W4.cell? ⟨H + 1, 1, none⟩ = some (.string T) := B4.out.2.1.cell 1
    have b2 : W4.cell? ⟨H + 1, 2, none⟩ = some (.int .i32 0) := B4.out.2.1.cell 2
    have b3 : W4.cell? ⟨H + 1, 3, none⟩ = some (.int .u32 0) := B4.out.2.1.cell 3
    have b4 : W4.cell? ⟨H + 1, 4, none⟩ = some (.int .u16 0) := B4.out.2.1.cell 4
    have b5 : W4.cell? ⟨H + 1, 5, none⟩ = some (.int .u8 K) := B4.out.2.1.cell 5
    have b6 : W4.cell? ⟨H + 1, 6, none⟩ = some (.int .u8 0) := B4.out.2.1.cell 6
    go_upto_region 14 with (go_at_call 26; refine (turn26 _ K _ K26.out a5).mono ?_; rintro e w' ⟨rfl, rfl⟩)
    go_wp2_with fail
    refine (upd28 g k ⟨T, K, T, K, ⟨#[]⟩, 0, (n : Int) - 1, true⟩ S' ib A n c _ hk M4.out.t H0.out).mono ?_
    rintro e W5 ⟨rfl, ht5, hk5⟩
    have TK5 := Lib.hid ht5
    have DB := Lib.hid (hk5.blk M4.out.d M4.out.d.lt hdg)
    have KK := Lib.hid (show Kept w.heap.size g w W5 from M4.out.k.trans (hk5.mono M4.out.s))
    have SS := Lib.hid (show w.heap.size ≤ W5.heap.size from Nat.le_trans M4.out.s hk5.size)
    clear ht5 hk5 a0 a1 a2 a3 a4 a5 a6 b0 b1 b2 b3 b4 b5 b6 u0 u1 M4 B4
    have y2 : W5.cell? ⟨d, 2, none⟩ = some (.int .i32 0) := DB.out.cell 2
    have y3 : W5.cell? ⟨d, 3, none⟩ = some (.int .i32 0) := DB.out.cell 3
    go_wp2_with fail
    refine (comp29e g _ ib mw A n c 0 0 W5 TK5.out (by
      obtain ⟨j, hj, h⟩ := HL.out
      rcases (by omega : j = 0 ∨ j = 1 ∨ j = 2 ∨ j = 3) with rfl | rfl | rfl | rfl
      · exact .inl h
      · exact .inr (.inl h)
      · exact .inr (.inr (.inl h))
      · exact .inr (.inr (.inr h)))).mono ?_
    rintro e W6 ⟨rfl, hb6⟩
    have TK6 := Lib.hid (TK5.out.below hb6)
    have K6 := Lib.hid (KK.out.next SS.out hb6)
    clear hb6 y2 y3 DB
    go_wp2_with fail
    first
      | refine bodyPost_end (results_none rfl _ _ _) rfl ?_
      | refine bodyPost_ret (results_none rfl _ _ _) rfl ?_
    exact FIN.out _ _ rfl TK6.out K6.out
end Go.Proofs.YtnolnlekdlfeaaaDoor.ZT
