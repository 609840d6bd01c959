/- The two merges of n011_210 by their wrapper; two groups held against each other. -/
import Derived.Test.YtdonfahjcejhpaaMe
namespace Go.Proofs.Ytdonfahjcejhpaa.MG
open Go.RowKit Go.Proofs.Ytdonfahjcejhpaa.TB
set_option linter.unusedVariables false
theorem merge_b (tg : Nat) (tp : Option Addr) (va : Option Addr) (vl vc : Nat) (na : Option Addr) (m nc n base : Nat) (S : Nat → ByteArray) (l l2 cB c2 : Int) (we we2 : Bool) (w : World) (hnl : n ≤ 4096) (hS : Subs base w (.slice va vl vc) n S)
    (hB : Blk w tg 46 #[.pointer none, .slice none 0 0, .slice none 0 0, .int .i32 l, .int .u8 cB, .bool we]) :
    Calls Try.prog 22 #[.pointer (some ⟨tg, 0, none⟩), .agg #[.pointer tp, .slice va vl vc, .slice na m nc, .int .i32 l2, .int .u8 c2, .bool we2]] w (Mb w.heap.size tg tp n m S l cB we w) := by
  rcases Nat.eq_zero_or_pos n with hn | hn <;> rcases Nat.eq_zero_or_pos m with hm | hm <;> cases tp with
  | none => first | exact merge_b0 tg va vl vc na m nc n base S l l2 cB c2 we we2 w hm hn hnl hS hB | exact merge_b1 tg va vl vc na m nc n base S l l2 cB c2 we we2 w hm hn hnl hS hB | exact merge_b4 tg va vl vc na m nc n base S l l2 cB c2 we we2 w hm hn hnl hS hB | exact merge_b5 tg va vl vc na m nc n base S l l2 cB c2 we we2 w hm hn hnl hS hB
  | some ta => first | exact merge_b2 tg ta va vl vc na m nc n base S l l2 cB c2 we we2 w hm hn hnl hS hB | exact merge_b3 tg ta va vl vc na m nc n base S l l2 cB c2 we we2 w hm hn hnl hS hB | exact merge_b6 tg ta va vl vc na m nc n base S l l2 cB c2 we we2 w hm hn hnl hS hB | exact merge_b7 tg ta va vl vc na m nc n base S l l2 cB c2 we we2 w hm hn hnl hS hB
theorem Ma.weak {tg : Nat} {tp v nv : Value} {l cB : Int} {we : Bool} {w : World} {o : Obj} {e : Ending} {w' : World} (h : Ma tg tp v nv l cB we (w.alloc o) e w') : Ma tg tp v nv l cB we w e w' := by
  obtain ⟨h1, h2, h3⟩ := h
  exact ⟨h1, h2, ((Kept.refl w.heap.size tg w).alloc (Nat.le_refl _) o).trans (h3.mono (by simp))⟩
theorem Mb.weak {B tg : Nat} {tp : Option Addr} {n m : Nat} {S : Nat → ByteArray} {l cB : Int} {we : Bool} {w : World} {o : Obj} {e : Ending} {w' : World} (h : Mb B tg tp n m S l cB we (w.alloc o) e w') : Mb B tg tp n m S l cB we w e w' := by
  obtain ⟨h1, v', nv', h2, h3, h4, h5⟩ := h
  exact ⟨h1, v', nv', h2, h3, h4, ((Kept.refl w.heap.size tg w).alloc (Nat.le_refl _) o).trans (h5.mono (by simp))⟩
set_option maxRecDepth 100000 in
set_option maxHeartbeats 4000000 in
theorem zmerge_a (tg : Nat) (tp nv : Value) (va : Option Addr) (vl vc : Nat) (l cB c2 : Int) (we : Bool) (w : World) (hv : Value.slice va vl vc = .slice none 0 0 ∨ ∃ g m c, Value.slice va vl vc = .slice (some ⟨g, 0, none⟩) m c ∧ m ≤ c)
    (hB : Blk w tg 46 #[tp, .slice va vl vc, nv, .int .i32 l, .int .u8 cB, .bool we]) :
    Calls Try.prog 14 #[.pointer (some ⟨tg, 0, none⟩), .agg #[.pointer none, .slice none 0 0, .slice none 0 0, .int .i32 0, .int .u8 c2, .bool false]] w (Ma tg tp (.slice va vl vc) nv l cB we w) := by
  have C := Lib.hid (fun (o : Obj) => merge_a tg tp nv va vl vc l cB c2 we (w.alloc o) hv (hB.alloc o))
  clear hv hB
  go_enter Try.func14, Try.ntmps14
  go_wp2_with fail
  refine (C.out _).mono ?_
  rintro e w1 h
  obtain ⟨rfl, h2⟩ := h.weak
  have H := Lib.hid h2
  clear h h2
  go_wp2_with fail
  refine bodyPost_end (results_none rfl _ _ _) rfl ?_
  exact ⟨rfl, H.out⟩
set_option maxRecDepth 100000 in
set_option maxHeartbeats 4000000 in
theorem zmerge_b (tg : Nat) (tp : Option Addr) (va : Option Addr) (vl vc : Nat) (na : Option Addr) (m nc n base : Nat) (S : Nat → ByteArray) (l l2 cB c2 : Int) (we we2 : Bool) (w : World) (hnl : n ≤ 4096) (hS : Subs base w (.slice va vl vc) n S)
    (hB : Blk w tg 46 #[.pointer none, .slice none 0 0, .slice none 0 0, .int .i32 l, .int .u8 cB, .bool we]) :
    Calls Try.prog 14 #[.pointer (some ⟨tg, 0, none⟩), .agg #[.pointer tp, .slice va vl vc, .slice na m nc, .int .i32 l2, .int .u8 c2, .bool we2]] w (Mb (w.heap.size + 1) tg tp n m S l cB we w) := by
  have C := Lib.hid (fun (o : Obj) => merge_b tg tp va vl vc na m nc n base S l l2 cB c2 we we2 (w.alloc o) hnl (hS.below ((Below.refl _ _).alloc (Nat.le_refl _) o)) (hB.alloc o))
  clear hS hB
  go_enter Try.func14, Try.ntmps14
  go_wp2_with fail
  refine (C.out _).mono ?_
  rintro e w1 h
  obtain ⟨rfl, h2⟩ := h.weak
  have H := Lib.hid h2
  clear h h2
  go_wp2_with fail
  refine bodyPost_end (results_none rfl _ _ _) rfl ?_
  exact ⟨rfl, by simpa using H.out⟩
/-- A group, laid at the head of a block. -/
structure Gp (w : World) (g : Nat) (cB : Int) (ty : ByteArray) (m : Int) (we : Bool) (n : Nat) (T : Nat → ByteArray) : Prop where
  c0 : w.cell? ⟨g, 0, none⟩ = some (.int .u8 cB)
  c1 : w.cell? ⟨g, 1, none⟩ = some (.string ty)
  c2 : w.cell? ⟨g, 2, none⟩ = some (.int .i64 m)
  c3 : ∃ a c, w.cell? ⟨g, 3, none⟩ = some (.slice a n c) ∧ (0 < n → ∃ b, a = some ⟨b, 0, none⟩ ∧ ∀ i, i < n → w.cell? ⟨b, i, none⟩ = some (.string (T i)))
  c4 : w.cell? ⟨g, 4, none⟩ = some (.bool we)
set_option maxRecDepth 100000 in
set_option maxHeartbeats 4000000 in
theorem same15 (g h c d : Nat) (cB : Int) (ty : ByteArray) (m : Int) (we : Bool) (n : Nat) (T : Nat → ByteArray) (w : World) (hn : n ≤ 4096) (H1 : Gp w g cB ty m we n T) (H2 : Gp w h cB ty m we n T) :
    Calls Try.prog 15 #[.slice (some ⟨g, 0, none⟩) 1 c, .slice (some ⟨h, 0, none⟩) 1 d] w fun e w' => e = .returned (.bool true) ∧ ∃ k, w' = w.drewN k := by
  obtain ⟨x0, x1, x2, ⟨xa, xc, x3, hx⟩, x4⟩ := H1
  obtain ⟨y0, y1, y2, ⟨ya, yc, y3, hy⟩, y4⟩ := H2
  have HX := Lib.hid hx
  have HY := Lib.hid hy
  clear hx hy
  go_enter Try.func15, Try.ntmps15
  go_wp2_with fail
  go_loopw [5, 6] (fun i _ wr => ∃ (k q : Nat), k ≤ 1 ∧ i = .int .i64 k ∧ wr = w.drewN q) (fun i _ _ => 1 - (intOf i).toNat)
  case atStart => exact ⟨0, 0, Nat.zero_le _, rfl, rfl⟩
  case round =>
    obtain ⟨k, q, hk, rfl, rfl⟩ := hrel
    by_cases hlt : k < 1
    · obtain rfl : k = 0 := by omega
      have q0 : (0 : Int) ≤ ((0 : Nat) : Int) := by omega
      go_wp2_with fail
      go_quiet (fail)
      go_wp2_with fail
      obtain ⟨Q, hQ⟩ : ∃ Q : Nat, (w.drewN q).drewN nq = w.drewN Q := ⟨_, World.drewN_drewN ..⟩
      rw [hQ]
      clear hQ
      go_loopw [6] (fun j wr => ∃ (i p : Nat), i ≤ n ∧ j = .int .i64 i ∧ wr = w.drewN p) (fun j _ => n - (intOf j).toNat)
      case atStart => exact ⟨0, _, Nat.zero_le _, rfl, rfl⟩
      case round =>
        obtain ⟨i, p, hi, rfl, rfl⟩ := hrel
        by_cases hlt2 : i < n
        · obtain ⟨b1, e1, z1⟩ := HX.out (by omega)
          obtain ⟨b2, e2, z2⟩ := HY.out (by omega)
          subst e1 e2
          have y5 := z1 i hlt2
          have y6 := z2 i hlt2
          clear z1 z2
          have q1 : (0 : Int) ≤ (i : Int) := by omega
          have q2 : (i : Int) < (n : Int) := by omega
          go_wp2_with fail
          go_quiet (fail)
          go_wp2_with fail
          go_roundw
          case rel => exact ⟨i + 1, _, by omega, by go_num, rfl⟩
          case measure => simp [intOf]; omega
        · obtain rfl : i = n := by omega
          go_wp2_with fail
          go_roundw
          case rel => exact ⟨1, _, by omega, by go_num, rfl⟩
          case measure => simp [intOf]
    · obtain rfl : k = 1 := by omega
      go_wp2_with fail
      go_ret
      exact ⟨rfl, q, rfl⟩
end Go.Proofs.Ytdonfahjcejhpaa.MG
