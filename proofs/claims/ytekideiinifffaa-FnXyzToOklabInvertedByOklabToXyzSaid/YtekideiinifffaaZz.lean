/- The four wrappers: what they hand back. Written by gen_zz4.py. -/
import Derived.Test.YtekideiinifffaaOkl
import Derived.Test.YtekideiinifffaaOki
namespace Go.Proofs.Ytekideiinifffaa.F64
open Go.RowKit
def ZInv (w w4 : World) (r0 r1 r2 : Nat) (w' : World) : Prop :=
  Below w.heap.size w w' ∧ w'.cell? ⟨w4.heap.size, 0, none⟩ = some (.float .f64 r0) ∧ w'.cell? ⟨w4.heap.size + 1, 0, none⟩ = some (.float .f64 r1) ∧ w'.cell? ⟨w4.heap.size + 1 + 1, 0, none⟩ = some (.float .f64 r2) ∧ w4.heap.size + 1 + 1 < w'.heap.size
theorem ZInv.step {w w4 : World} {r0 r1 r2 : Nat} {w1 w2 : World} (h : ZInv w w4 r0 r1 r2 w1) (hb : Below w1.heap.size w1 w2) : ZInv w w4 r0 r1 r2 w2 := by
  obtain ⟨hB, x0, x1, x2, x3⟩ := h
  have hc : ∀ b o, b < w1.heap.size → w2.cell? ⟨b, o, none⟩ = w1.cell? ⟨b, o, none⟩ := fun b o h => hb.cell (p := ⟨b, o, none⟩) h
  have hz := hb.size
  have hBz := hB.size
  exact ⟨hB.trans (hb.mono (by omega)), by rw [hc _ _ (by omega)]; exact x0, by rw [hc _ _ (by omega)]; exact x1, by rw [hc _ _ (by omega)]; exact x2, by omega⟩
theorem ZInv.start (w w4 : World) (r0 r1 r2 t : Nat) (hB : Below w.heap.size w w4) :
    ZInv w w4 r0 r1 r2 (((w4.alloc (.cells #[.float .f64 r0] t)).alloc (.cells #[.float .f64 r1] t)).alloc (.cells #[.float .f64 r2] t)).drew := by
  have hz := hB.size
  refine ⟨(((hB.alloc (by omega) _).alloc (by simp; omega) _).alloc (by simp; omega) _).drew, ?_⟩
  simp [go_sem]

set_option maxRecDepth 100000 in
set_option maxHeartbeats 1000000 in
theorem zzOk7 (x y z : Nat) (w : World) (h : OkOK x y z) :
    Calls Try.prog 7 #[.float .f64 x, .float .f64 y, .float .f64 z] w
      fun e w' => e = .returned (.tuple #[.float .f64 (q0 x y z), .float .f64 (q1 x y z), .float .f64 (q2 x y z)]) ∧ Below w.heap.size w w' := by
  have H := Lib.hid h
  clear h
  go_enter Try.func7, Try.ntmps7
  go_wp2_with fail
  refine (newF64 x _).mono ?_
  rintro e w1 ⟨rfl, hb1⟩
  go_wp2_with fail
  refine (newF64 y _).mono ?_
  rintro e w2 ⟨rfl, hb2⟩
  go_wp2_with fail
  refine (newF64 z _).mono ?_
  rintro e w3 ⟨rfl, hb3⟩
  go_wp2_with fail
  refine (oklab x y z _ H.out).mono ?_
  rintro e w4 ⟨rfl, hb4⟩
  have hB : Below w.heap.size w w4 := ((hb1.trans (hb2.mono hb1.size)).trans (hb3.mono (Nat.le_trans hb1.size hb2.size))).trans (hb4.mono (Nat.le_trans (Nat.le_trans hb1.size hb2.size) hb3.size))
  clear H hb1 hb2 hb3 hb4
  have hsz := hB.size
  go_wp2_with fail
  generalize hr0 : q0 x y z = r0
  generalize hr1 : q1 x y z = r1
  generalize hr2 : q2 x y z = r2
  have R0 := Lib.hid hr0
  have R1 := Lib.hid hr1
  have R2 := Lib.hid hr2
  clear hr0 hr1 hr2
  have STEP := Lib.hid (fun w1 w2 (h : ZInv w w4 r0 r1 r2 w1) (hb : Below w1.heap.size w1 w2) => h.step hb)
  have START := Lib.hid (ZInv.start w w4 r0 r1 r2 29 hB)
  go_region_held3 (fun w' => Below w.heap.size w w' ∧ w'.cell? ⟨w4.heap.size, 0, none⟩ = some (.float .f64 r0) ∧ w'.cell? ⟨w4.heap.size + 1, 0, none⟩ = some (.float .f64 r1) ∧ w'.cell? ⟨w4.heap.size + 1 + 1, 0, none⟩ = some (.float .f64 r2) ∧ w4.heap.size + 1 + 1 < w'.heap.size)
    (first | assumption | exact START.out)
    (first | (go_at_call 16; refine (value _ _).mono ?_; rintro e w1 ⟨rfl, hb⟩; have hI := STEP.out _ _ (by assumption) hb; unfold ZInv at hI; clear hb))
  go_wp2
  go_ret3
  rw [R0.out, R1.out, R2.out]
  exact ⟨rfl, And.left (show ZInv w w4 r0 r1 r2 _ by assumption)⟩
set_option maxRecDepth 100000 in
set_option maxHeartbeats 1000000 in
theorem zzOk13 (x y z : Nat) (w : World) (h : OkOK x y z) :
    Calls Try.prog 13 #[.float .f64 x, .float .f64 y, .float .f64 z] w
      fun e w' => e = .returned (.tuple #[.float .f64 (q0 x y z), .float .f64 (q1 x y z), .float .f64 (q2 x y z)]) ∧ Below w.heap.size w w' := by
  have H := Lib.hid h
  clear h
  go_enter Try.func13, Try.ntmps13
  go_wp2_with fail
  refine (newF64 x _).mono ?_
  rintro e w1 ⟨rfl, hb1⟩
  go_wp2_with fail
  refine (newF64 y _).mono ?_
  rintro e w2 ⟨rfl, hb2⟩
  go_wp2_with fail
  refine (newF64 z _).mono ?_
  rintro e w3 ⟨rfl, hb3⟩
  go_wp2_with fail
  refine (oklab x y z _ H.out).mono ?_
  rintro e w4 ⟨rfl, hb4⟩
  have hB : Below w.heap.size w w4 := ((hb1.trans (hb2.mono hb1.size)).trans (hb3.mono (Nat.le_trans hb1.size hb2.size))).trans (hb4.mono (Nat.le_trans (Nat.le_trans hb1.size hb2.size) hb3.size))
  clear H hb1 hb2 hb3 hb4
  have hsz := hB.size
  go_wp2_with fail
  generalize hr0 : q0 x y z = r0
  generalize hr1 : q1 x y z = r1
  generalize hr2 : q2 x y z = r2
  have R0 := Lib.hid hr0
  have R1 := Lib.hid hr1
  have R2 := Lib.hid hr2
  clear hr0 hr1 hr2
  have STEP := Lib.hid (fun w1 w2 (h : ZInv w w4 r0 r1 r2 w1) (hb : Below w1.heap.size w1 w2) => h.step hb)
  have START := Lib.hid (ZInv.start w w4 r0 r1 r2 29 hB)
  go_region_held3 (fun w' => Below w.heap.size w w' ∧ w'.cell? ⟨w4.heap.size, 0, none⟩ = some (.float .f64 r0) ∧ w'.cell? ⟨w4.heap.size + 1, 0, none⟩ = some (.float .f64 r1) ∧ w'.cell? ⟨w4.heap.size + 1 + 1, 0, none⟩ = some (.float .f64 r2) ∧ w4.heap.size + 1 + 1 < w'.heap.size)
    (first | assumption | exact START.out)
    (first | (go_at_call 16; refine (value _ _).mono ?_; rintro e w1 ⟨rfl, hb⟩; have hI := STEP.out _ _ (by assumption) hb; unfold ZInv at hI; clear hb))
  go_wp2
  go_ret3
  rw [R0.out, R1.out, R2.out]
  exact ⟨rfl, And.left (show ZInv w w4 r0 r1 r2 _ by assumption)⟩
set_option maxRecDepth 100000 in
set_option maxHeartbeats 1000000 in
theorem zzTo6 (x y z a b c : Nat) (w : World) (h : XiOK x y z) (ho : XoOK a b c)
    (ha : ∀ w : World, Calls Try.prog 19 #[.agg #[.float .f64 (u0 x y z)]] w fun e w' => e = .returned (.agg #[.float .f64 a]) ∧ Below w.heap.size w w')
    (hb : ∀ w : World, Calls Try.prog 19 #[.agg #[.float .f64 (u1 x y z)]] w fun e w' => e = .returned (.agg #[.float .f64 b]) ∧ Below w.heap.size w w')
    (hc : ∀ w : World, Calls Try.prog 19 #[.agg #[.float .f64 (u2 x y z)]] w fun e w' => e = .returned (.agg #[.float .f64 c]) ∧ Below w.heap.size w w') :
    Calls Try.prog 6 #[.float .f64 x, .float .f64 y, .float .f64 z] w
      fun e w' => e = .returned (.tuple #[.float .f64 (v0 a b c), .float .f64 (v1 a b c), .float .f64 (v2 a b c)]) ∧ Below w.heap.size w w' := by
  have H := Lib.hid (fun w => toOk x y z a b c w h ho ha hb hc)
  clear h ho ha hb hc
  go_enter Try.func6, Try.ntmps6
  go_wp2_with fail
  refine (newF64 x _).mono ?_
  rintro e w1 ⟨rfl, hb1⟩
  go_wp2_with fail
  refine (newF64 y _).mono ?_
  rintro e w2 ⟨rfl, hb2⟩
  go_wp2_with fail
  refine (newF64 z _).mono ?_
  rintro e w3 ⟨rfl, hb3⟩
  go_wp2_with fail
  refine (H.out _).mono ?_
  rintro e w4 ⟨rfl, hb4⟩
  have hB : Below w.heap.size w w4 := ((hb1.trans (hb2.mono hb1.size)).trans (hb3.mono (Nat.le_trans hb1.size hb2.size))).trans (hb4.mono (Nat.le_trans (Nat.le_trans hb1.size hb2.size) hb3.size))
  clear H hb1 hb2 hb3 hb4
  have hsz := hB.size
  go_wp2_with fail
  generalize hr0 : v0 a b c = r0
  generalize hr1 : v1 a b c = r1
  generalize hr2 : v2 a b c = r2
  have R0 := Lib.hid hr0
  have R1 := Lib.hid hr1
  have R2 := Lib.hid hr2
  clear hr0 hr1 hr2
  have STEP := Lib.hid (fun w1 w2 (h : ZInv w w4 r0 r1 r2 w1) (hb : Below w1.heap.size w1 w2) => h.step hb)
  have START := Lib.hid (ZInv.start w w4 r0 r1 r2 29 hB)
  go_region_held3 (fun w' => Below w.heap.size w w' ∧ w'.cell? ⟨w4.heap.size, 0, none⟩ = some (.float .f64 r0) ∧ w'.cell? ⟨w4.heap.size + 1, 0, none⟩ = some (.float .f64 r1) ∧ w'.cell? ⟨w4.heap.size + 1 + 1, 0, none⟩ = some (.float .f64 r2) ∧ w4.heap.size + 1 + 1 < w'.heap.size)
    (first | assumption | exact START.out)
    (first | (go_at_call 16; refine (value _ _).mono ?_; rintro e w1 ⟨rfl, hb⟩; have hI := STEP.out _ _ (by assumption) hb; unfold ZInv at hI; clear hb))
  go_wp2
  go_ret3
  rw [R0.out, R1.out, R2.out]
  exact ⟨rfl, And.left (show ZInv w w4 r0 r1 r2 _ by assumption)⟩
set_option maxRecDepth 100000 in
set_option maxHeartbeats 1000000 in
theorem zzTo12 (x y z a b c : Nat) (w : World) (h : XiOK x y z) (ho : XoOK a b c)
    (ha : ∀ w : World, Calls Try.prog 19 #[.agg #[.float .f64 (u0 x y z)]] w fun e w' => e = .returned (.agg #[.float .f64 a]) ∧ Below w.heap.size w w')
    (hb : ∀ w : World, Calls Try.prog 19 #[.agg #[.float .f64 (u1 x y z)]] w fun e w' => e = .returned (.agg #[.float .f64 b]) ∧ Below w.heap.size w w')
    (hc : ∀ w : World, Calls Try.prog 19 #[.agg #[.float .f64 (u2 x y z)]] w fun e w' => e = .returned (.agg #[.float .f64 c]) ∧ Below w.heap.size w w') :
    Calls Try.prog 12 #[.float .f64 x, .float .f64 y, .float .f64 z] w
      fun e w' => e = .returned (.tuple #[.float .f64 (v0 a b c), .float .f64 (v1 a b c), .float .f64 (v2 a b c)]) ∧ Below w.heap.size w w' := by
  have H := Lib.hid (fun w => toOk x y z a b c w h ho ha hb hc)
  clear h ho ha hb hc
  go_enter Try.func12, Try.ntmps12
  go_wp2_with fail
  refine (newF64 x _).mono ?_
  rintro e w1 ⟨rfl, hb1⟩
  go_wp2_with fail
  refine (newF64 y _).mono ?_
  rintro e w2 ⟨rfl, hb2⟩
  go_wp2_with fail
  refine (newF64 z _).mono ?_
  rintro e w3 ⟨rfl, hb3⟩
  go_wp2_with fail
  refine (H.out _).mono ?_
  rintro e w4 ⟨rfl, hb4⟩
  have hB : Below w.heap.size w w4 := ((hb1.trans (hb2.mono hb1.size)).trans (hb3.mono (Nat.le_trans hb1.size hb2.size))).trans (hb4.mono (Nat.le_trans (Nat.le_trans hb1.size hb2.size) hb3.size))
  clear H hb1 hb2 hb3 hb4
  have hsz := hB.size
  go_wp2_with fail
  generalize hr0 : v0 a b c = r0
  generalize hr1 : v1 a b c = r1
  generalize hr2 : v2 a b c = r2
  have R0 := Lib.hid hr0
  have R1 := Lib.hid hr1
  have R2 := Lib.hid hr2
  clear hr0 hr1 hr2
  have STEP := Lib.hid (fun w1 w2 (h : ZInv w w4 r0 r1 r2 w1) (hb : Below w1.heap.size w1 w2) => h.step hb)
  have START := Lib.hid (ZInv.start w w4 r0 r1 r2 29 hB)
  go_region_held3 (fun w' => Below w.heap.size w w' ∧ w'.cell? ⟨w4.heap.size, 0, none⟩ = some (.float .f64 r0) ∧ w'.cell? ⟨w4.heap.size + 1, 0, none⟩ = some (.float .f64 r1) ∧ w'.cell? ⟨w4.heap.size + 1 + 1, 0, none⟩ = some (.float .f64 r2) ∧ w4.heap.size + 1 + 1 < w'.heap.size)
    (first | assumption | exact START.out)
    (first | (go_at_call 16; refine (value _ _).mono ?_; rintro e w1 ⟨rfl, hb⟩; have hI := STEP.out _ _ (by assumption) hb; unfold ZInv at hI; clear hb))
  go_wp2
  go_ret3
  rw [R0.out, R1.out, R2.out]
  exact ⟨rfl, And.left (show ZInv w w4 r0 r1 r2 _ by assumption)⟩
end Go.Proofs.Ytekideiinifffaa.F64
