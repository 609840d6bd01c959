/- mangleCorner: a longhand that is refused; what the law looks at. -/
import Derived.Test.YtnolnlekdlfeaaaDoorJc
namespace Go.Proofs.YtnolnlekdlfeaaaDoor.ZT
open Go.RowKit Go.Proofs.YtnolnlekdlfeaaaDoor.TB
set_option linter.unusedVariables false
set_option maxRecDepth 100000 in
set_option maxHeartbeats 8000000 in
theorem refuse22 (g d k n c nv cv : Nat) (A V : Option Addr) (mw : Bool) (S : Nat → Cn) (im : Bool) (w : World) (ht : Tk w g S im) (hd : Blk w d 40 #[.string ⟨#[]⟩, .slice V nv cv, .int .i32 0, .int .i32 0, .int .u16 0, .bool im])
    (hdg : d ≠ g) (hv : nv = 0 ∨ nv = 3 ∨ (nv = 1 ∧ 1 ≤ cv ∧ ∃ gv, V = some ⟨gv, 0, none⟩ ∧ w.cell? ⟨gv, 5, none⟩ = some (.int .u8 29))) :
    Calls Tryd.prog 22 #[.pointer (some ⟨g, 0, none⟩), .slice A n c, .pointer (some ⟨d, 0, none⟩), .bool mw, .int .i64 k] w fun e w' =>
      e = .returned (.tuple #[]) ∧ Tk w' g (fun _ => C0) im ∧ Kept w.heap.size g w w' := by
  have HT := Lib.hid ht
  have e72 : w.cell? ⟨g, 72, none⟩ = some (.bool im) := ht.imp
  have d5 : w.cell? ⟨d, 5, none⟩ = some (.bool im) := hd.cell 5
  have d1 : w.cell? ⟨d, 1, none⟩ = some (.slice V nv cv) := hd.cell 1
  have hi76 : (Tryd.prog.info? 76).map (·.size) = some zl.toArray.size := by kernel_rfl
  have e1 : (!im == im) = false := by cases im <;> rfl
  clear ht hd
  rcases hv with rfl | rfl | ⟨rfl, hc1, gv, rfl, h5⟩
  all_goals
    go_enter Tryd.func22, Tryd.ntmps22
    go_wp2_with fail
    go_quiet (fail)
    go_upto_region 22 with (go_at_call 24; refine (num24 _ _).mono ?_; rintro e w' ⟨rfl, rfl⟩; rw [show ((29 : Int) == 30 || ((29 : Int) == 34 || (29 : Int) == 26)) = false from rfl])
    generalize hW : w.drewN _ = W1
    have T1 : Hid (Tk W1 g S im ∧ Kept w.heap.size g w W1) := by rw [← hW]; exact Lib.hid ⟨Tab.drewN HT.out _, ⟨rfl, rfl, rfl, Nat.le_refl _, fun _ _ _ => rfl⟩⟩
    have hth : W1.there g 0 zl.toArray.size := fun j hj => ⟨by
      have hj' : j < 72 := hj
      rw [Nat.zero_add, T1.out.1.cell (by omega)]; rfl, T1.out.1.frozen _⟩
    have R := Lib.hid (show Tk (W1.setCells g 0 zl) g (fun _ => C0) im ∧ Kept w.heap.size g w (W1.setCells g 0 zl) from ⟨T1.out.1.reset, kept_setCells T1.out.2 _ _⟩)
    clear hW e1 e72 d5 d1 T1
    go_wp2_with (first
      | (refine wpList_store_mid (by rfl) 76 _ _ rfl g 0 zl.toArray rfl rfl hth hi76 zl_one ?_))
    first
      | refine bodyPost_end (results_none rfl _ _ _) rfl ?_
      | refine bodyPost_ret (results_none rfl _ _ _) rfl ?_
    exact ⟨rfl, R.out⟩
set_option maxRecDepth 100000 in
theorem first18 (g k : Nat) (S : Nat → Cn) (im : Bool) (w : World) (hk : k < 4) (ht : Tk w g S im) : Calls Tryd.prog 18 #[.pointer (some ⟨g, 0, none⟩), .int .i64 k] w fun e w' =>
    e = .returned (.agg #[.pointer none, .string (S k).t, .int .i32 0, .int .u32 0, .int .u16 0, .int .u8 (S k).k, .int .u8 0]) ∧ Below w.heap.size w w' := by
  have B0 := Lib.hid (fun (o : Obj) => show Below w.heap.size w (w.alloc o) from (Below.refl _ _).alloc (Nat.le_refl _) _)
  have hlt := ht.lt
  have ne : ¬ g = w.heap.size := by omega
  have q0 : (0 : Int) ≤ (k : Int) := by omega
  have q1 : (k : Int) < 4 := by omega
  have c0 : w.cell? ⟨g, k * 18, none⟩ = some (.pointer none) := ht.at (k := k) (d := 0) hk (by omega)
  have c1 : w.cell? ⟨g, k * 18 + 1, none⟩ = some (.string (S k).t) := ht.at (k := k) (d := 1) hk (by omega)
  have c2 : w.cell? ⟨g, k * 18 + 2, none⟩ = some (.int .i32 0) := ht.at (k := k) (d := 2) hk (by omega)
  have c3 : w.cell? ⟨g, k * 18 + 3, none⟩ = some (.int .u32 0) := ht.at (k := k) (d := 3) hk (by omega)
  have c4 : w.cell? ⟨g, k * 18 + 4, none⟩ = some (.int .u16 0) := ht.at (k := k) (d := 4) hk (by omega)
  have c5 : w.cell? ⟨g, k * 18 + 5, none⟩ = some (.int .u8 (S k).k) := ht.at (k := k) (d := 5) hk (by omega)
  have c6 : w.cell? ⟨g, k * 18 + 6, none⟩ = some (.int .u8 0) := ht.at (k := k) (d := 6) hk (by omega)
  clear ht
  go_enter Tryd.func18, Tryd.ntmps18
  go_wp2
  refine bodyPost_ret (v := .agg #[.pointer none, .string (S k).t, .int .i32 0, .int .u32 0, .int .u16 0, .int .u8 (S k).k, .int .u8 0]) (by simp [results, Tryd.results18, go_sem]; done) rfl ⟨rfl, ?_⟩
  exact B0.out _
theorem mangle17 {g d k n c : Nat} {A : Option Addr} {mw : Bool} {w : World} {R : Ending → World → Prop} (h : Calls Tryd.prog 22 #[.pointer (some ⟨g, 0, none⟩), .slice A n c, .pointer (some ⟨d, 0, none⟩), .bool mw, .int .i64 k] w fun e w' => e = .returned (.tuple #[]) ∧ R e w') :
    Calls Tryd.prog 17 #[.pointer (some ⟨g, 0, none⟩), .slice A n c, .pointer (some ⟨d, 0, none⟩), .bool mw, .int .i64 k] w fun e w' => e = .returned (.tuple #[]) ∧ R e w' := by
  have H := Lib.hid h
  clear h
  go_enter Tryd.func17, Tryd.ntmps17
  go_wp2_with fail
  refine H.out.mono ?_
  rintro e w1 ⟨rfl, hr⟩
  have HR := Lib.hid hr
  clear hr
  go_wp2_with fail
  first
    | refine bodyPost_end (results_none rfl _ _ _) rfl ?_
    | refine bodyPost_ret (results_none rfl _ _ _) rfl ?_
  exact ⟨rfl, HR.out⟩
theorem as_some (W : World) (v : Value) : (Instr.typeAssert (.iface 25 v) 52 25 true).run Tryd.prog W = .ok (.tuple #[v, .bool true]) W := by kernel_rfl
set_option maxRecDepth 100000 in
theorem decl11 (d : Nat) (l : Int) (w : World) : Calls Tryd.prog 11 #[.agg #[.iface 25 (.pointer (some ⟨d, 0, none⟩)), .int .i32 l]] w fun e w' => e = .returned (.pointer (some ⟨d, 0, none⟩)) ∧ Below w.heap.size w w' := by
  have B0 := Lib.hid (fun (o : Obj) => show Below w.heap.size w (w.alloc o) from (Below.refl _ _).alloc (Nat.le_refl _) _)
  have a2 := as_some
  go_enter Tryd.func11, Tryd.ntmps11
  go_wp2
  go_ret
  exact ⟨rfl, B0.out _⟩
set_option maxRecDepth 100000 in
theorem same9 (T : ByteArray) (K c : Int) (w : World) (h0 : 0 ≤ c) (h1 : c < 5) (hT : T = txT c) (hK : K = kdT c) : Calls Tryd.prog 9 #[.agg #[.pointer none, .string T, .int .i32 0, .int .u32 0, .int .u16 0, .int .u8 K, .int .u8 0], .int .u8 c] w fun e w' => e = .returned (.bool true) ∧ Below w.heap.size w w' := by
  subst hT hK
  have B0 := Lib.hid (fun (o : Obj) => show Blk (w.alloc o) w.heap.size 47 #[.pointer none, .string (txT c), .int .i32 0, .int .u32 0, .int .u16 0, .int .u8 (kdT c), .int .u8 0] ∨ True from .inr trivial)
  have N0 := Lib.hid (Blk.new w 47 #[.pointer none, .string (txT c), .int .i32 0, .int .u32 0, .int .u16 0, .int .u8 (kdT c), .int .u8 0])
  have BB := Lib.hid (show Below w.heap.size w (w.alloc (.cells #[.pointer none, .string (txT c), .int .i32 0, .int .u32 0, .int .u16 0, .int .u8 (kdT c), .int .u8 0] 47)) from (Below.refl _ _).alloc (Nat.le_refl _) _)
  go_enter Tryd.func9, Tryd.ntmps9
  go_wp2_with fail
  clear B0
  generalize w.alloc (.cells #[.pointer none, .string (txT c), .int .i32 0, .int .u32 0, .int .u16 0, .int .u8 (kdT c), .int .u8 0] 47) = W0 at *
  refine (tok16 c _ h0 h1).mono ?_
  rintro e w1 ⟨rfl, hb⟩
  have T1 := Lib.hid (N0.out.below hb N0.out.lt)
  have B1 := Lib.hid (BB.out.trans (hb.mono BB.out.size))
  have x5 : w1.cell? ⟨w.heap.size, 5, none⟩ = some (.int .u8 (kdT c)) := T1.out.cell 5
  have x1 : w1.cell? ⟨w.heap.size, 1, none⟩ = some (.string (txT c)) := T1.out.cell 1
  have hlt := T1.out.lt
  have ne : ¬ w.heap.size = w1.heap.size := by omega
  have hle := B1.out.size
  clear hb N0 BB T1
  go_wp2_with fail
  go_ret
  exact ⟨by simp, B1.out.alloc hle _⟩
end Go.Proofs.YtnolnlekdlfeaaaDoor.ZT
