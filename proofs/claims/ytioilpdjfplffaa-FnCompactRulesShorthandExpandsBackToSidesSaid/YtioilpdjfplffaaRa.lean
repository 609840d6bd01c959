/- The small functions of the laws on boxes. Written by gen_box.py. -/
import Derived.Test.YtioilpdjfplffaaTq
import Derived.Test.YtioilpdjfplffaaKe
import Derived.Test.YtioilpdjfplffaaGa
namespace Go.Proofs.Ytioilpdjfplffaa.ZT
open Go.RowKit Go.Proofs.Ytioilpdjfplffaa.TB
set_option linter.unusedVariables false
/-- The kind and the text of a code. -/
def kd (c : Int) : Int := if c = 0 then 30 else if c = 1 then 34 else if c = 2 then 34 else if c = 3 then 29 else if c = 4 then 30 else if c = 5 then 26 else 26
def tx (c : Int) : ByteArray := if c = 0 then { data := #[48] } else if c = 1 then { data := #[49, 37] } else if c = 2 then { data := #[50, 37] } else if c = 3 then { data := #[97, 117, 116, 111] } else if c = 4 then { data := #[53] } else if c = 5 then { data := #[49, 118, 119] } else { data := #[50, 118, 104] }
def tokV (T : ByteArray) (L K W : Int) : Value := .agg #[.pointer none, .string T, .int .i32 L, .int .u32 0, .int .u16 0, .int .u8 K, .int .u8 W]
set_option maxRecDepth 100000 in
set_option maxHeartbeats 2000000 in
theorem tok6 (c l : Int) (w : World) : Calls Try.prog 6 #[.int .u8 c, .int .i32 l] w fun e w' => e = .returned (.agg #[.pointer none, .string (tx c), .int .i32 l, .int .u32 0, .int .u16 0, .int .u8 (kd c), .int .u8 0]) ∧ Below w.heap.size w w' := by
  have B0 := Lib.hid (fun (o o' : Obj) => show Below w.heap.size w ((w.alloc o).alloc o') from ((Below.refl _ _).alloc (Nat.le_refl _) _).alloc (by simp) _)
  by_cases h0 : c = 0
  · subst h0
    go_enter Try.func6, Try.ntmps6
    go_wp2
    refine bodyPost_ret (v := .agg #[.pointer none, .string (tx 0), .int .i32 l, .int .u32 0, .int .u16 0, .int .u8 (kd 0), .int .u8 0]) (by simp [results, Try.results6, go_sem, tx, kd]; done) rfl ⟨rfl, ?_⟩
    exact B0.out _ _
  by_cases h1 : c = 1
  · subst h1
    clear h0
    go_enter Try.func6, Try.ntmps6
    go_wp2
    refine bodyPost_ret (v := .agg #[.pointer none, .string (tx 1), .int .i32 l, .int .u32 0, .int .u16 0, .int .u8 (kd 1), .int .u8 0]) (by simp [results, Try.results6, go_sem, tx, kd]; done) rfl ⟨rfl, ?_⟩
    exact B0.out _ _
  by_cases h2 : c = 2
  · subst h2
    clear h0 h1
    go_enter Try.func6, Try.ntmps6
    go_wp2
    refine bodyPost_ret (v := .agg #[.pointer none, .string (tx 2), .int .i32 l, .int .u32 0, .int .u16 0, .int .u8 (kd 2), .int .u8 0]) (by simp [results, Try.results6, go_sem, tx, kd]; done) rfl ⟨rfl, ?_⟩
    exact B0.out _ _
  by_cases h3 : c = 3
  · subst h3
    clear h0 h1 h2
    go_enter Try.func6, Try.ntmps6
    go_wp2
    refine bodyPost_ret (v := .agg #[.pointer none, .string (tx 3), .int .i32 l, .int .u32 0, .int .u16 0, .int .u8 (kd 3), .int .u8 0]) (by simp [results, Try.results6, go_sem, tx, kd]; done) rfl ⟨rfl, ?_⟩
    exact B0.out _ _
  by_cases h4 : c = 4
  · subst h4
    clear h0 h1 h2 h3
    go_enter Try.func6, Try.ntmps6
    go_wp2
    refine bodyPost_ret (v := .agg #[.pointer none, .string (tx 4), .int .i32 l, .int .u32 0, .int .u16 0, .int .u8 (kd 4), .int .u8 0]) (by simp [results, Try.results6, go_sem, tx, kd]; done) rfl ⟨rfl, ?_⟩
    exact B0.out _ _
  by_cases h5 : c = 5
  · subst h5
    clear h0 h1 h2 h3 h4
    go_enter Try.func6, Try.ntmps6
    go_wp2
    refine bodyPost_ret (v := .agg #[.pointer none, .string (tx 5), .int .i32 l, .int .u32 0, .int .u16 0, .int .u8 (kd 5), .int .u8 0]) (by simp [results, Try.results6, go_sem, tx, kd]; done) rfl ⟨rfl, ?_⟩
    exact B0.out _ _
  have e1 : tx c = { data := #[50, 118, 104] } := by simp [tx, h0, h1, h2, h3, h4, h5]
  have e2 : kd c = 26 := by simp [kd, h0, h1, h2, h3, h4, h5]
  rw [e1, e2]
  clear e1 e2
  go_enter Try.func6, Try.ntmps6
  go_wp2
  refine bodyPost_ret (v := .agg #[.pointer none, .string { data := #[50, 118, 104] }, .int .i32 l, .int .u32 0, .int .u16 0, .int .u8 26, .int .u8 0]) (by simp [results, Try.results6, go_sem]; done) rfl ⟨rfl, ?_⟩
  exact B0.out _ _
set_option maxRecDepth 100000 in
set_option maxHeartbeats 2000000 in
theorem isTok17 (T : ByteArray) (l k ws c : Int) (w : World) : Calls Try.prog 17 #[.agg #[.pointer none, .string T, .int .i32 l, .int .u32 0, .int .u16 0, .int .u8 k, .int .u8 ws], .int .u8 c] w fun e w' => e = .returned (.bool (eqT k (kd c) T (tx c))) ∧ Below w.heap.size w w' := by
  have H1 := Lib.hid (fun w1 (hb : Below (w.alloc (.cells #[.pointer none, .string T, .int .i32 l, .int .u32 0, .int .u16 0, .int .u8 k, .int .u8 ws] 38)).heap.size (w.alloc (.cells #[.pointer none, .string T, .int .i32 l, .int .u32 0, .int .u16 0, .int .u8 k, .int .u8 ws] 38)) w1) => show w1.cell? ⟨w.heap.size, 5, none⟩ = some (.int .u8 k) ∧ w1.cell? ⟨w.heap.size, 1, none⟩ = some (.string T) ∧ w.heap.size < w1.heap.size ∧ Below w.heap.size w w1 from
    ⟨by rw [hb.cell (p := ⟨w.heap.size, 5, none⟩) (by simp)]; simp [go_sem], by rw [hb.cell (p := ⟨w.heap.size, 1, none⟩) (by simp)]; simp [go_sem], by have := hb.size; simp at this; omega, ((Below.refl _ _).alloc (Nat.le_refl _) _).trans (hb.mono (by simp))⟩)
  unfold eqT
  cases h1 : (k == kd c)
  · go_enter Try.func17, Try.ntmps17
    go_wp2_with fail
    refine (tok6 _ _ _).mono ?_
    rintro e w1 ⟨rfl, hb⟩
    obtain ⟨x5, x1, hlt, hB⟩ := H1.out _ hb
    have ne : ¬ w.heap.size = w1.heap.size := by omega
    clear hb
    go_wp2
    go_ret
    exact ⟨by simp, hB.alloc (by omega) _⟩
  · cases h2 : (T.toList == (tx c).toList)
    all_goals
      go_enter Try.func17, Try.ntmps17
      go_wp2_with fail
      refine (tok6 _ _ _).mono ?_
      rintro e w1 ⟨rfl, hb⟩
      obtain ⟨x5, x1, hlt, hB⟩ := H1.out _ hb
      have ne : ¬ w.heap.size = w1.heap.size := by omega
      clear hb
      go_wp2
      go_ret
      exact ⟨by simp, hB.alloc (by omega) _⟩
theorem as_nil (W : World) : (Instr.typeAssert .nilIface 46 30 true).run Try.prog W = .ok (.tuple #[.pointer none, .bool false]) W := by kernel_rfl
theorem as_some (W : World) (v : Value) : (Instr.typeAssert (.iface 30 v) 46 30 true).run Try.prog W = .ok (.tuple #[v, .bool true]) W := by kernel_rfl
/-- A rule's data: nothing, or a declaration. -/
def dv : Option Nat → Value
  | none => .nilIface
  | some d => .iface 30 (.pointer (some ⟨d, 0, none⟩))
def dp : Option Nat → Value
  | none => .pointer none
  | some d => .pointer (some ⟨d, 0, none⟩)
set_option maxRecDepth 100000 in
set_option maxHeartbeats 2000000 in
theorem decl12 (d : Option Nat) (l : Int) (w : World) : Calls Try.prog 12 #[.agg #[dv d, .int .i32 l]] w fun e w' => e = .returned (dp d) ∧ Below w.heap.size w w' := by
  have B0 := Lib.hid (fun (o : Obj) => show Below w.heap.size w (w.alloc o) from (Below.refl _ _).alloc (Nat.le_refl _) _)
  have a1 := as_nil
  have a2 := as_some
  cases d with
  | none =>
    show Calls Try.prog 12 #[.agg #[.nilIface, .int .i32 l]] w fun e w' => e = .returned (.pointer none) ∧ Below w.heap.size w w'
    go_enter Try.func12, Try.ntmps12
    go_wp2
    go_ret
    exact ⟨rfl, B0.out _⟩
  | some d =>
    show Calls Try.prog 12 #[.agg #[.iface 30 (.pointer (some ⟨d, 0, none⟩)), .int .i32 l]] w fun e w' => e = .returned (.pointer (some ⟨d, 0, none⟩)) ∧ Below w.heap.size w w'
    go_enter Try.func12, Try.ntmps12
    go_wp2
    go_ret
    exact ⟨rfl, B0.out _⟩
set_option maxRecDepth 100000 in
set_option maxHeartbeats 2000000 in
theorem has13 (d : Option Nat) (l : Int) (w : World) : Calls Try.prog 13 #[.agg #[dv d, .int .i32 l]] w fun e w' => e = .returned (.bool d.isSome) ∧ Below w.heap.size w w' := by
  have B0 := Lib.hid (fun (o : Obj) => show Below w.heap.size w (w.alloc o) from (Below.refl _ _).alloc (Nat.le_refl _) _)
  cases d with
  | none =>
    show Calls Try.prog 13 #[.agg #[.nilIface, .int .i32 l]] w fun e w' => e = .returned (.bool false) ∧ Below w.heap.size w w'
    go_enter Try.func13, Try.ntmps13
    go_wp2
    go_ret
    exact ⟨rfl, B0.out _⟩
  | some d =>
    show Calls Try.prog 13 #[.agg #[.iface 30 (.pointer (some ⟨d, 0, none⟩)), .int .i32 l]] w fun e w' => e = .returned (.bool true) ∧ Below w.heap.size w w'
    go_enter Try.func13, Try.ntmps13
    go_wp2
    go_ret
    exact ⟨rfl, B0.out _⟩
/-- Two sides of one class of units. -/
def safe (U : ByteArray) (s : Int) (U' : ByteArray) (s' : Int) : Bool := (s == s') && (!(s == 2)) && ((!(s == 1)) || (U.toList == U'.toList))
set_option maxRecDepth 100000 in
set_option maxHeartbeats 2000000 in
theorem safe22 (U U' : ByteArray) (s s' : Int) (w : World) : Calls Try.prog 22 #[.agg #[.string U, .int .u8 s], .agg #[.string U', .int .u8 s']] w fun e w' => e = .returned (.bool (safe U s U' s')) ∧ Below w.heap.size w w' := by
  have B0 := Lib.hid (fun (o o' : Obj) => show Below w.heap.size w ((w.alloc o).alloc o') from ((Below.refl _ _).alloc (Nat.le_refl _) _).alloc (by simp) _)
  unfold safe
  cases h1 : (s == s') <;> cases h4 : (U.toList == U'.toList)
  all_goals
    go_enter Try.func22, Try.ntmps22
    go_wp2
  all_goals
    go_ret
    exact ⟨by simp_all [bne], B0.out _ _⟩
end Go.Proofs.Ytioilpdjfplffaa.ZT
