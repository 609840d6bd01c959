/- The box: its block. Written by gen_boxb.py. -/
import Derived.Test.YtioilpdjfplffaaRa
namespace Go.Proofs.Ytioilpdjfplffaa.ZT
open Go.RowKit Go.Proofs.Ytioilpdjfplffaa.TB
set_option linter.unusedVariables false
structure Sd where
  t : ByteArray
  l : Int
  k : Int
  ws : Int
  u : ByteArray
  st : Int
  r : Int
  b : Bool
def Sd0 : Sd := ⟨{ data := #[] }, 0, 0, 0, { data := #[] }, 0, 0, false⟩
def boxA (kt : ByteArray) (S : Nat → Sd) (au im : Bool) (key : Int) : Array Value := #[.string kt, .pointer none, .string (S 0).t, .int .i32 (S 0).l, .int .u32 0, .int .u16 0, .int .u8 (S 0).k, .int .u8 (S 0).ws, .string (S 0).u, .int .u8 (S 0).st, .int .u32 (S 0).r, .bool (S 0).b, .pointer none, .string (S 1).t, .int .i32 (S 1).l, .int .u32 0, .int .u16 0, .int .u8 (S 1).k, .int .u8 (S 1).ws, .string (S 1).u, .int .u8 (S 1).st, .int .u32 (S 1).r, .bool (S 1).b, .pointer none, .string (S 2).t, .int .i32 (S 2).l, .int .u32 0, .int .u16 0, .int .u8 (S 2).k, .int .u8 (S 2).ws, .string (S 2).u, .int .u8 (S 2).st, .int .u32 (S 2).r, .bool (S 2).b, .pointer none, .string (S 3).t, .int .i32 (S 3).l, .int .u32 0, .int .u16 0, .int .u8 (S 3).k, .int .u8 (S 3).ws, .string (S 3).u, .int .u8 (S 3).st, .int .u32 (S 3).r, .bool (S 3).b, .bool au, .bool im, .int .u16 key]
def updS (S : Nat → Sd) (s : Nat) (x : Sd) : Nat → Sd := fun i => if i = s then x else S i
/-- The box lies at g. -/
def Box (w : World) (g : Nat) (kt : ByteArray) (S : Nat → Sd) (au im : Bool) (key : Int) : Prop := Blk w g 76 (boxA kt S au im key)
theorem Box.drew {w : World} {g : Nat} {kt : ByteArray} {S : Nat → Sd} {au im : Bool} {key : Int} (h : Box w g kt S au im key) : Box w.drew g kt S au im key := h
theorem Box.alloc {w : World} {g : Nat} {kt : ByteArray} {S : Nat → Sd} {au im : Bool} {key : Int} (h : Box w g kt S au im key) (o : Obj) : Box (w.alloc o) g kt S au im key := Blk.alloc h o
set_option maxRecDepth 100000 in
set_option maxHeartbeats 2000000 in
theorem newBox5 (key : Int) (kt : ByteArray) (au im : Bool) (w : World) : Calls Try.prog 5 #[.int .u16 key, .string kt, .bool au, .bool im] w fun e w' => ∃ g, e = .returned (.pointer (some ⟨g, 0, none⟩)) ∧ Box w' g kt (fun _ => Sd0) au im key ∧ Below w.heap.size w w' ∧ w.heap.size ≤ g := by
  have B0 := Lib.hid (fun (o : Obj) => show Below w.heap.size w (w.alloc o) from (Below.refl _ _).alloc (Nat.le_refl _) _)
  have N0 := Lib.hid (show Box (w.alloc (.cells (boxA kt (fun _ => Sd0) au im key) 76)) w.heap.size kt (fun _ => Sd0) au im key from Blk.new w 76 _)
  unfold boxA Sd0 at N0
  go_enter Try.func5, Try.ntmps5
  go_wp2
  go_ret
  exact ⟨w.heap.size, rfl, N0.out, B0.out _, Nat.le_refl _⟩
theorem Box.set0 {w : World} {g : Nat} {kt : ByteArray} {S : Nat → Sd} {au im : Bool} {key : Int} (h : Box w g kt S au im key) (x : Sd) : Box (((((((((((w.setCell ⟨g, 1, none⟩ (.pointer none)).setCell ⟨g, 2, none⟩ (.string x.t)).setCell ⟨g, 3, none⟩ (.int .i32 x.l)).setCell ⟨g, 4, none⟩ (.int .u32 0)).setCell ⟨g, 5, none⟩ (.int .u16 0)).setCell ⟨g, 6, none⟩ (.int .u8 x.k)).setCell ⟨g, 7, none⟩ (.int .u8 x.ws)).setCell ⟨g, 8, none⟩ (.string x.u)).setCell ⟨g, 9, none⟩ (.int .u8 x.st)).setCell ⟨g, 10, none⟩ (.int .u32 x.r)).setCell ⟨g, 11, none⟩ (.bool x.b)) g kt (updS S 0 x) au im key := by
  unfold Box at h ⊢
  have hh := (((((((((((h.set_ 1 (.pointer none)).set_ 2 (.string x.t)).set_ 3 (.int .i32 x.l)).set_ 4 (.int .u32 0)).set_ 5 (.int .u16 0)).set_ 6 (.int .u8 x.k)).set_ 7 (.int .u8 x.ws)).set_ 8 (.string x.u)).set_ 9 (.int .u8 x.st)).set_ 10 (.int .u32 x.r)).set_ 11 (.bool x.b))
  simp only [boxA, List.setIfInBounds_toArray, List.set_cons_zero, List.set_cons_succ] at hh
  exact hh
theorem Box.set1 {w : World} {g : Nat} {kt : ByteArray} {S : Nat → Sd} {au im : Bool} {key : Int} (h : Box w g kt S au im key) (x : Sd) : Box (((((((((((w.setCell ⟨g, 12, none⟩ (.pointer none)).setCell ⟨g, 13, none⟩ (.string x.t)).setCell ⟨g, 14, none⟩ (.int .i32 x.l)).setCell ⟨g, 15, none⟩ (.int .u32 0)).setCell ⟨g, 16, none⟩ (.int .u16 0)).setCell ⟨g, 17, none⟩ (.int .u8 x.k)).setCell ⟨g, 18, none⟩ (.int .u8 x.ws)).setCell ⟨g, 19, none⟩ (.string x.u)).setCell ⟨g, 20, none⟩ (.int .u8 x.st)).setCell ⟨g, 21, none⟩ (.int .u32 x.r)).setCell ⟨g, 22, none⟩ (.bool x.b)) g kt (updS S 1 x) au im key := by
  unfold Box at h ⊢
  have hh := (((((((((((h.set_ 12 (.pointer none)).set_ 13 (.string x.t)).set_ 14 (.int .i32 x.l)).set_ 15 (.int .u32 0)).set_ 16 (.int .u16 0)).set_ 17 (.int .u8 x.k)).set_ 18 (.int .u8 x.ws)).set_ 19 (.string x.u)).set_ 20 (.int .u8 x.st)).set_ 21 (.int .u32 x.r)).set_ 22 (.bool x.b))
  simp only [boxA, List.setIfInBounds_toArray, List.set_cons_zero, List.set_cons_succ] at hh
  exact hh
theorem Box.set2 {w : World} {g : Nat} {kt : ByteArray} {S : Nat → Sd} {au im : Bool} {key : Int} (h : Box w g kt S au im key) (x : Sd) : Box (((((((((((w.setCell ⟨g, 23, none⟩ (.pointer none)).setCell ⟨g, 24, none⟩ (.string x.t)).setCell ⟨g, 25, none⟩ (.int .i32 x.l)).setCell ⟨g, 26, none⟩ (.int .u32 0)).setCell ⟨g, 27, none⟩ (.int .u16 0)).setCell ⟨g, 28, none⟩ (.int .u8 x.k)).setCell ⟨g, 29, none⟩ (.int .u8 x.ws)).setCell ⟨g, 30, none⟩ (.string x.u)).setCell ⟨g, 31, none⟩ (.int .u8 x.st)).setCell ⟨g, 32, none⟩ (.int .u32 x.r)).setCell ⟨g, 33, none⟩ (.bool x.b)) g kt (updS S 2 x) au im key := by
  unfold Box at h ⊢
  have hh := (((((((((((h.set_ 23 (.pointer none)).set_ 24 (.string x.t)).set_ 25 (.int .i32 x.l)).set_ 26 (.int .u32 0)).set_ 27 (.int .u16 0)).set_ 28 (.int .u8 x.k)).set_ 29 (.int .u8 x.ws)).set_ 30 (.string x.u)).set_ 31 (.int .u8 x.st)).set_ 32 (.int .u32 x.r)).set_ 33 (.bool x.b))
  simp only [boxA, List.setIfInBounds_toArray, List.set_cons_zero, List.set_cons_succ] at hh
  exact hh
theorem Box.set3 {w : World} {g : Nat} {kt : ByteArray} {S : Nat → Sd} {au im : Bool} {key : Int} (h : Box w g kt S au im key) (x : Sd) : Box (((((((((((w.setCell ⟨g, 34, none⟩ (.pointer none)).setCell ⟨g, 35, none⟩ (.string x.t)).setCell ⟨g, 36, none⟩ (.int .i32 x.l)).setCell ⟨g, 37, none⟩ (.int .u32 0)).setCell ⟨g, 38, none⟩ (.int .u16 0)).setCell ⟨g, 39, none⟩ (.int .u8 x.k)).setCell ⟨g, 40, none⟩ (.int .u8 x.ws)).setCell ⟨g, 41, none⟩ (.string x.u)).setCell ⟨g, 42, none⟩ (.int .u8 x.st)).setCell ⟨g, 43, none⟩ (.int .u32 x.r)).setCell ⟨g, 44, none⟩ (.bool x.b)) g kt (updS S 3 x) au im key := by
  unfold Box at h ⊢
  have hh := (((((((((((h.set_ 34 (.pointer none)).set_ 35 (.string x.t)).set_ 36 (.int .i32 x.l)).set_ 37 (.int .u32 0)).set_ 38 (.int .u16 0)).set_ 39 (.int .u8 x.k)).set_ 40 (.int .u8 x.ws)).set_ 41 (.string x.u)).set_ 42 (.int .u8 x.st)).set_ 43 (.int .u32 x.r)).set_ 44 (.bool x.b))
  simp only [boxA, List.setIfInBounds_toArray, List.set_cons_zero, List.set_cons_succ] at hh
  exact hh
set_option maxRecDepth 100000 in
set_option maxHeartbeats 8000000 in
theorem setSide7_0 (g : Nat) (x : Sd) (kt : ByteArray) (S : Nat → Sd) (au im : Bool) (key : Int) (w : World) (hb : Box w g kt S au im key) :
    Calls Try.prog 7 #[.pointer (some ⟨g, 0, none⟩), .int .i64 0, .agg #[.pointer none, .string x.t, .int .i32 x.l, .int .u32 0, .int .u16 0, .int .u8 x.k, .int .u8 x.ws], .string x.u, .int .u8 x.st, .int .u32 x.r, .bool x.b] w
      fun e w' => e = .returned (.tuple #[]) ∧ Box w' g kt (updS S 0 x) au im key ∧ Kept w.heap.size g w w' := by
  have HB := Lib.hid hb
  have hlt : g < w.heap.size := hb.lt
  have ne : ¬ g = w.heap.size := by omega
  have ne2 : ¬ w.heap.size = g := by omega
  have K0 := Lib.hid (fun (o : Obj) => show Kept w.heap.size g w (w.alloc o) from (Kept.refl _ _ _).alloc (Nat.le_refl _) o)
  have A0 := Lib.hid (fun (o : Obj) => show Box (w.alloc o) g kt S au im key from Blk.alloc HB.out o)
  clear hb
  have c1 : w.cell? ⟨g, 1, none⟩ = some (.pointer none) := HB.out.cell 1
  have f1 : w.frozen? ⟨g, 1, none⟩ = false := HB.out.frozen 1
  have c2 : w.cell? ⟨g, 2, none⟩ = some (.string (S 0).t) := HB.out.cell 2
  have f2 : w.frozen? ⟨g, 2, none⟩ = false := HB.out.frozen 2
  have c3 : w.cell? ⟨g, 3, none⟩ = some (.int .i32 (S 0).l) := HB.out.cell 3
  have f3 : w.frozen? ⟨g, 3, none⟩ = false := HB.out.frozen 3
  have c4 : w.cell? ⟨g, 4, none⟩ = some (.int .u32 0) := HB.out.cell 4
  have f4 : w.frozen? ⟨g, 4, none⟩ = false := HB.out.frozen 4
  have c5 : w.cell? ⟨g, 5, none⟩ = some (.int .u16 0) := HB.out.cell 5
  have f5 : w.frozen? ⟨g, 5, none⟩ = false := HB.out.frozen 5
  have c6 : w.cell? ⟨g, 6, none⟩ = some (.int .u8 (S 0).k) := HB.out.cell 6
  have f6 : w.frozen? ⟨g, 6, none⟩ = false := HB.out.frozen 6
  have c7 : w.cell? ⟨g, 7, none⟩ = some (.int .u8 (S 0).ws) := HB.out.cell 7
  have f7 : w.frozen? ⟨g, 7, none⟩ = false := HB.out.frozen 7
  have c8 : w.cell? ⟨g, 8, none⟩ = some (.string (S 0).u) := HB.out.cell 8
  have f8 : w.frozen? ⟨g, 8, none⟩ = false := HB.out.frozen 8
  have c9 : w.cell? ⟨g, 9, none⟩ = some (.int .u8 (S 0).st) := HB.out.cell 9
  have f9 : w.frozen? ⟨g, 9, none⟩ = false := HB.out.frozen 9
  have c10 : w.cell? ⟨g, 10, none⟩ = some (.int .u32 (S 0).r) := HB.out.cell 10
  have f10 : w.frozen? ⟨g, 10, none⟩ = false := HB.out.frozen 10
  have c11 : w.cell? ⟨g, 11, none⟩ = some (.bool (S 0).b) := HB.out.cell 11
  have f11 : w.frozen? ⟨g, 11, none⟩ = false := HB.out.frozen 11
  go_enter Try.func7, Try.ntmps7
  go_wp2
  go_region
  go_wp2
  refine bodyPost_end (results_none rfl _ _ _) rfl ?_
  exact ⟨rfl, Box.drew (Box.alloc (HB.out.set0 x) _), ((((((((((((((Kept.refl _ _ _).setCell 1 _).setCell 2 _).setCell 3 _).setCell 4 _).setCell 5 _).setCell 6 _).setCell 7 _).setCell 8 _).setCell 9 _).setCell 10 _).setCell 11 _)).alloc (by simp) _).drew⟩
set_option maxRecDepth 100000 in
set_option maxHeartbeats 8000000 in
theorem setSide7_1 (g : Nat) (x : Sd) (kt : ByteArray) (S : Nat → Sd) (au im : Bool) (key : Int) (w : World) (hb : Box w g kt S au im key) :
    Calls Try.prog 7 #[.pointer (some ⟨g, 0, none⟩), .int .i64 1, .agg #[.pointer none, .string x.t, .int .i32 x.l, .int .u32 0, .int .u16 0, .int .u8 x.k, .int .u8 x.ws], .string x.u, .int .u8 x.st, .int .u32 x.r, .bool x.b] w
      fun e w' => e = .returned (.tuple #[]) ∧ Box w' g kt (updS S 1 x) au im key ∧ Kept w.heap.size g w w' := by
  have HB := Lib.hid hb
  have hlt : g < w.heap.size := hb.lt
  have ne : ¬ g = w.heap.size := by omega
  have ne2 : ¬ w.heap.size = g := by omega
  have K0 := Lib.hid (fun (o : Obj) => show Kept w.heap.size g w (w.alloc o) from (Kept.refl _ _ _).alloc (Nat.le_refl _) o)
  have A0 := Lib.hid (fun (o : Obj) => show Box (w.alloc o) g kt S au im key from Blk.alloc HB.out o)
  clear hb
  have c12 : w.cell? ⟨g, 12, none⟩ = some (.pointer none) := HB.out.cell 12
  have f12 : w.frozen? ⟨g, 12, none⟩ = false := HB.out.frozen 12
  have c13 : w.cell? ⟨g, 13, none⟩ = some (.string (S 1).t) := HB.out.cell 13
  have f13 : w.frozen? ⟨g, 13, none⟩ = false := HB.out.frozen 13
  have c14 : w.cell? ⟨g, 14, none⟩ = some (.int .i32 (S 1).l) := HB.out.cell 14
  have f14 : w.frozen? ⟨g, 14, none⟩ = false := HB.out.frozen 14
  have c15 : w.cell? ⟨g, 15, none⟩ = some (.int .u32 0) := HB.out.cell 15
  have f15 : w.frozen? ⟨g, 15, none⟩ = false := HB.out.frozen 15
  have c16 : w.cell? ⟨g, 16, none⟩ = some (.int .u16 0) := HB.out.cell 16
  have f16 : w.frozen? ⟨g, 16, none⟩ = false := HB.out.frozen 16
  have c17 : w.cell? ⟨g, 17, none⟩ = some (.int .u8 (S 1).k) := HB.out.cell 17
  have f17 : w.frozen? ⟨g, 17, none⟩ = false := HB.out.frozen 17
  have c18 : w.cell? ⟨g, 18, none⟩ = some (.int .u8 (S 1).ws) := HB.out.cell 18
  have f18 : w.frozen? ⟨g, 18, none⟩ = false := HB.out.frozen 18
  have c19 : w.cell? ⟨g, 19, none⟩ = some (.string (S 1).u) := HB.out.cell 19
  have f19 : w.frozen? ⟨g, 19, none⟩ = false := HB.out.frozen 19
  have c20 : w.cell? ⟨g, 20, none⟩ = some (.int .u8 (S 1).st) := HB.out.cell 20
  have f20 : w.frozen? ⟨g, 20, none⟩ = false := HB.out.frozen 20
  have c21 : w.cell? ⟨g, 21, none⟩ = some (.int .u32 (S 1).r) := HB.out.cell 21
  have f21 : w.frozen? ⟨g, 21, none⟩ = false := HB.out.frozen 21
  have c22 : w.cell? ⟨g, 22, none⟩ = some (.bool (S 1).b) := HB.out.cell 22
  have f22 : w.frozen? ⟨g, 22, none⟩ = false := HB.out.frozen 22
  go_enter Try.func7, Try.ntmps7
  go_wp2
  go_region
  go_wp2
  refine bodyPost_end (results_none rfl _ _ _) rfl ?_
  exact ⟨rfl, Box.drew (Box.alloc (HB.out.set1 x) _), ((((((((((((((Kept.refl _ _ _).setCell 12 _).setCell 13 _).setCell 14 _).setCell 15 _).setCell 16 _).setCell 17 _).setCell 18 _).setCell 19 _).setCell 20 _).setCell 21 _).setCell 22 _)).alloc (by simp) _).drew⟩
set_option maxRecDepth 100000 in
set_option maxHeartbeats 8000000 in
theorem setSide7_2 (g : Nat) (x : Sd) (kt : ByteArray) (S : Nat → Sd) (au im : Bool) (key : Int) (w : World) (hb : Box w g kt S au im key) :
    Calls Try.prog 7 #[.pointer (some ⟨g, 0, none⟩), .int .i64 2, .agg #[.pointer none, .string x.t, .int .i32 x.l, .int .u32 0, .int .u16 0, .int .u8 x.k, .int .u8 x.ws], .string x.u, .int .u8 x.st, .int .u32 x.r, .bool x.b] w
      fun e w' => e = .returned (.tuple #[]) ∧ Box w' g kt (updS S 2 x) au im key ∧ Kept w.heap.size g w w' := by
  have HB := Lib.hid hb
  have hlt : g < w.heap.size := hb.lt
  have ne : ¬ g = w.heap.size := by omega
  have ne2 : ¬ w.heap.size = g := by omega
  have K0 := Lib.hid (fun (o : Obj) => show Kept w.heap.size g w (w.alloc o) from (Kept.refl _ _ _).alloc (Nat.le_refl _) o)
  have A0 := Lib.hid (fun (o : Obj) => show Box (w.alloc o) g kt S au im key from Blk.alloc HB.out o)
  clear hb
  have c23 : w.cell? ⟨g, 23, none⟩ = some (.pointer none) := HB.out.cell 23
  have f23 : w.frozen? ⟨g, 23, none⟩ = false := HB.out.frozen 23
  have c24 : w.cell? ⟨g, 24, none⟩ = some (.string (S 2).t) := HB.out.cell 24
  have f24 : w.frozen? ⟨g, 24, none⟩ = false := HB.out.frozen 24
  have c25 : w.cell? ⟨g, 25, none⟩ = some (.int .i32 (S 2).l) := HB.out.cell 25
  have f25 : w.frozen? ⟨g, 25, none⟩ = false := HB.out.frozen 25
  have c26 : w.cell? ⟨g, 26, none⟩ = some (.int .u32 0) := HB.out.cell 26
  have f26 : w.frozen? ⟨g, 26, none⟩ = false := HB.out.frozen 26
  have c27 : w.cell? ⟨g, 27, none⟩ = some (.int .u16 0) := HB.out.cell 27
  have f27 : w.frozen? ⟨g, 27, none⟩ = false := HB.out.frozen 27
  have c28 : w.cell? ⟨g, 28, none⟩ = some (.int .u8 (S 2).k) := HB.out.cell 28
  have f28 : w.frozen? ⟨g, 28, none⟩ = false := HB.out.frozen 28
  have c29 : w.cell? ⟨g, 29, none⟩ = some (.int .u8 (S 2).ws) := HB.out.cell 29
  have f29 : w.frozen? ⟨g, 29, none⟩ = false := HB.out.frozen 29
  have c30 : w.cell? ⟨g, 30, none⟩ = some (.string (S 2).u) := HB.out.cell 30
  have f30 : w.frozen? ⟨g, 30, none⟩ = false := HB.out.frozen 30
  have c31 : w.cell? ⟨g, 31, none⟩ = some (.int .u8 (S 2).st) := HB.out.cell 31
  have f31 : w.frozen? ⟨g, 31, none⟩ = false := HB.out.frozen 31
  have c32 : w.cell? ⟨g, 32, none⟩ = some (.int .u32 (S 2).r) := HB.out.cell 32
  have f32 : w.frozen? ⟨g, 32, none⟩ = false := HB.out.frozen 32
  have c33 : w.cell? ⟨g, 33, none⟩ = some (.bool (S 2).b) := HB.out.cell 33
  have f33 : w.frozen? ⟨g, 33, none⟩ = false := HB.out.frozen 33
  go_enter Try.func7, Try.ntmps7
  go_wp2
  go_region
  go_wp2
  refine bodyPost_end (results_none rfl _ _ _) rfl ?_
  exact ⟨rfl, Box.drew (Box.alloc (HB.out.set2 x) _), ((((((((((((((Kept.refl _ _ _).setCell 23 _).setCell 24 _).setCell 25 _).setCell 26 _).setCell 27 _).setCell 28 _).setCell 29 _).setCell 30 _).setCell 31 _).setCell 32 _).setCell 33 _)).alloc (by simp) _).drew⟩
set_option maxRecDepth 100000 in
set_option maxHeartbeats 8000000 in
theorem setSide7_3 (g : Nat) (x : Sd) (kt : ByteArray) (S : Nat → Sd) (au im : Bool) (key : Int) (w : World) (hb : Box w g kt S au im key) :
    Calls Try.prog 7 #[.pointer (some ⟨g, 0, none⟩), .int .i64 3, .agg #[.pointer none, .string x.t, .int .i32 x.l, .int .u32 0, .int .u16 0, .int .u8 x.k, .int .u8 x.ws], .string x.u, .int .u8 x.st, .int .u32 x.r, .bool x.b] w
      fun e w' => e = .returned (.tuple #[]) ∧ Box w' g kt (updS S 3 x) au im key ∧ Kept w.heap.size g w w' := by
  have HB := Lib.hid hb
  have hlt : g < w.heap.size := hb.lt
  have ne : ¬ g = w.heap.size := by omega
  have ne2 : ¬ w.heap.size = g := by omega
  have K0 := Lib.hid (fun (o : Obj) => show Kept w.heap.size g w (w.alloc o) from (Kept.refl _ _ _).alloc (Nat.le_refl _) o)
  have A0 := Lib.hid (fun (o : Obj) => show Box (w.alloc o) g kt S au im key from Blk.alloc HB.out o)
  clear hb
  have c34 : w.cell? ⟨g, 34, none⟩ = some (.pointer none) := HB.out.cell 34
  have f34 : w.frozen? ⟨g, 34, none⟩ = false := HB.out.frozen 34
  have c35 : w.cell? ⟨g, 35, none⟩ = some (.string (S 3).t) := HB.out.cell 35
  have f35 : w.frozen? ⟨g, 35, none⟩ = false := HB.out.frozen 35
  have c36 : w.cell? ⟨g, 36, none⟩ = some (.int .i32 (S 3).l) := HB.out.cell 36
  have f36 : w.frozen? ⟨g, 36, none⟩ = false := HB.out.frozen 36
  have c37 : w.cell? ⟨g, 37, none⟩ = some (.int .u32 0) := HB.out.cell 37
  have f37 : w.frozen? ⟨g, 37, none⟩ = false := HB.out.frozen 37
  have c38 : w.cell? ⟨g, 38, none⟩ = some (.int .u16 0) := HB.out.cell 38
  have f38 : w.frozen? ⟨g, 38, none⟩ = false := HB.out.frozen 38
  have c39 : w.cell? ⟨g, 39, none⟩ = some (.int .u8 (S 3).k) := HB.out.cell 39
  have f39 : w.frozen? ⟨g, 39, none⟩ = false := HB.out.frozen 39
  have c40 : w.cell? ⟨g, 40, none⟩ = some (.int .u8 (S 3).ws) := HB.out.cell 40
  have f40 : w.frozen? ⟨g, 40, none⟩ = false := HB.out.frozen 40
  have c41 : w.cell? ⟨g, 41, none⟩ = some (.string (S 3).u) := HB.out.cell 41
  have f41 : w.frozen? ⟨g, 41, none⟩ = false := HB.out.frozen 41
  have c42 : w.cell? ⟨g, 42, none⟩ = some (.int .u8 (S 3).st) := HB.out.cell 42
  have f42 : w.frozen? ⟨g, 42, none⟩ = false := HB.out.frozen 42
  have c43 : w.cell? ⟨g, 43, none⟩ = some (.int .u32 (S 3).r) := HB.out.cell 43
  have f43 : w.frozen? ⟨g, 43, none⟩ = false := HB.out.frozen 43
  have c44 : w.cell? ⟨g, 44, none⟩ = some (.bool (S 3).b) := HB.out.cell 44
  have f44 : w.frozen? ⟨g, 44, none⟩ = false := HB.out.frozen 44
  go_enter Try.func7, Try.ntmps7
  go_wp2
  go_region
  go_wp2
  refine bodyPost_end (results_none rfl _ _ _) rfl ?_
  exact ⟨rfl, Box.drew (Box.alloc (HB.out.set3 x) _), ((((((((((((((Kept.refl _ _ _).setCell 34 _).setCell 35 _).setCell 36 _).setCell 37 _).setCell 38 _).setCell 39 _).setCell 40 _).setCell 41 _).setCell 42 _).setCell 43 _).setCell 44 _)).alloc (by simp) _).drew⟩
theorem setSide7 (g s : Nat) (x : Sd) (kt : ByteArray) (S : Nat → Sd) (au im : Bool) (key : Int) (w : World) (hs : s < 4) (hb : Box w g kt S au im key) :
    Calls Try.prog 7 #[.pointer (some ⟨g, 0, none⟩), .int .i64 s, .agg #[.pointer none, .string x.t, .int .i32 x.l, .int .u32 0, .int .u16 0, .int .u8 x.k, .int .u8 x.ws], .string x.u, .int .u8 x.st, .int .u32 x.r, .bool x.b] w
      fun e w' => e = .returned (.tuple #[]) ∧ Box w' g kt (updS S s x) au im key ∧ Kept w.heap.size g w w' := by
  rcases (by omega : s = 0 ∨ s = 1 ∨ s = 2 ∨ s = 3) with rfl | rfl | rfl | rfl
  · exact setSide7_0 g x kt S au im key w hb
  · exact setSide7_1 g x kt S au im key w hb
  · exact setSide7_2 g x kt S au im key w hb
  · exact setSide7_3 g x kt S au im key w hb
end Go.Proofs.Ytioilpdjfplffaa.ZT
