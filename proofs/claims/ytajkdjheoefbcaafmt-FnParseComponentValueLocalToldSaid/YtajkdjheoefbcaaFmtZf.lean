/- The parser of n011_198: the cursor, tokens, blocks and component values, walked where every group closes. -/
import Derived.Test.YtajkdjheoefbcaaFmtZe
import Derived.Deep.LoopGhost
import Derived.Deep.RegionHeld3
namespace Go.Proofs.YtajkdjheoefbcaaFmt.ZA
open Go.RowKit Go.Proofs.YtajkdjheoefbcaaFmt.TB Go.Proofs.YtajkdjheoefbcaaFmt.OW Go.Proofs.YtajkdjheoefbcaaFmt.PL
set_option linter.unusedVariables false
/-- The parser in block gp, its tokens in block g. -/
def Par (w : World) (gp g n : Nat) (c : ByteArray) (ix : Nat) (f : Nat → Nat → Value) : Prop :=
  (w.cell? ⟨gp, 16, none⟩ = some (.slice (some ⟨g, 0, none⟩) n n) ∧ w.cell? ⟨gp, 42, none⟩ = some (.int .i64 ix) ∧ w.cell? ⟨gp, 9, none⟩ = some (.string c) ∧ w.frozen? ⟨gp, 42, none⟩ = false) ∧ Tab w g 48 5 n f ∧ g < gp ∧ gp < w.heap.size
section
variable {w w' : World} {gp g n ix B : Nat} {c : ByteArray} {f : Nat → Nat → Value}
theorem Par.drew (h : Par w gp g n c ix f) (k : Nat) : Par (w.drewN k) gp g n c ix f := h
theorem Par.below (h : Par w gp g n c ix f) (hb : Below B w w') (hB : gp < B) : Par w' gp g n c ix f := by
  obtain ⟨⟨h1, h2, h3, h4⟩, h5, h6, h7⟩ := h
  refine ⟨⟨?_, ?_, ?_, ?_⟩, h5.below hb (by omega), h6, Nat.lt_of_lt_of_le h7 hb.size⟩
  · rw [hb.cell (p := ⟨gp, 16, none⟩) hB]; exact h1
  · rw [hb.cell (p := ⟨gp, 42, none⟩) hB]; exact h2
  · rw [hb.cell (p := ⟨gp, 9, none⟩) hB]; exact h3
  · rw [hb.frozen (p := ⟨gp, 42, none⟩) hB]; exact h4
theorem Par.put (h : Par w gp g n c ix f) (k : Nat) : Par (w.setCell ⟨gp, 42, none⟩ (.int .i64 k)) gp g n c k f := by
  obtain ⟨⟨h1, h2, h3, h4⟩, h5, h6, h7⟩ := h
  refine ⟨⟨?_, ?_, ?_, ?_⟩, h5.far (by show g ≠ gp; omega) _, h6, by simpa using h7⟩
  · simp [go_sem, h1]
  · simp [go_sem, h2]
  · simp [go_sem, h3]
  · simp [go_sem, h4]
end
theorem below_drewN {B : Nat} {a w : World} (h : Below B a w) (n : Nat) : Below B a (w.drewN n) := ⟨h.os, h.tape, h.output, h.size, h.block⟩
set_option maxRecDepth 100000 in
set_option maxHeartbeats 1000000 in
theorem makeW (c : ByteArray) (g n ix : Nat) (f : Nat → Nat → Value) (w : World) (h : Tab w g 48 5 n f) :
    Calls Tryf.prog 19 #[.string c, .slice (some ⟨g, 0, none⟩) n n, .int .i64 ix] w fun e w' => e = .returned (.pointer (some ⟨w.heap.size, 0, none⟩)) ∧ Par w' w.heap.size g n c ix f ∧ Below w.heap.size w w' := by
  have H := Lib.hid h
  clear h
  go_enter Tryf.func19, Tryf.ntmps19
  go_wp2
  go_ret
  exact ⟨rfl, ⟨⟨by simp [go_sem], by simp [go_sem], by simp [go_sem], by simp [go_sem]⟩, H.out.alloc _, H.out.lt, by simp⟩, (Below.refl _ _).alloc (Nat.le_refl _) _⟩
/-- What a step of the parser leaves: the cursor at j; what lies below the parser stands. -/
def Stp (gp g n : Nat) (c : ByteArray) (f : Nat → Nat → Value) (j : Nat) (w : World) (e : Ending) (w' : World) : Prop := e = .returned (.tuple #[]) ∧ Par w' gp g n c j f ∧ Below gp w w'
set_option maxRecDepth 100000 in
theorem adv (gp g n ix : Nat) (c : ByteArray) (f : Nat → Nat → Value) (w : World) (hP : Par w gp g n c ix f) (hn : n ≤ 1048576) (h : ix < n) :
    Calls Tryf.prog 29 #[.pointer (some ⟨gp, 0, none⟩)] w (Stp gp g n c f (ix + 1) w) := by
  have HP := Lib.hid hP
  have c1 := hP.1.1
  have c2 := hP.1.2.1
  have c3 := hP.1.2.2.2
  clear hP
  go_enter Tryf.func29, Tryf.ntmps29
  go_wp2
  go_quiet (fail)
  go_wp2
  go_end0
  exact ⟨rfl, Par.put (HP.out.drew _) (ix + 1), (below_drewN (B := gp) (Below.refl _ w) _).setCell (Nat.le_refl gp) _⟩
/-- A token as a value. -/
def tkv (z : Nat → Int) (i : Nat) : Value := .agg #[.int .i32 ((allT z i).length : Nat), .int .i32 ((txtL (kl z i)).length : Nat), .int .u16 0, .int .u8 (kd (kl z i)), .int .u8 0]
set_option maxRecDepth 100000 in
set_option maxHeartbeats 1000000 in
theorem at_any (gp g n ix i : Nat) (c : ByteArray) (z : Nat → Int) (w : World) (hP : Par w gp g n c ix (tk z)) (hn : n ≤ 1048576) (h : i < n) :
    Calls Tryf.prog 30 #[.pointer (some ⟨gp, 0, none⟩), .int .i64 i] w fun e w' => e = .returned (tkv z i) ∧ Below w.heap.size w w' := by
  have c1 := hP.1.1
  have T := Lib.hid hP.2.1
  have hg : g < w.heap.size := hP.2.1.lt
  have hgp : gp < w.heap.size := hP.2.2.2
  clear hP
  have ne1 : ¬ gp = w.heap.size := by omega
  have ne2 : ¬ g = w.heap.size := by omega
  have ne3 : ¬ w.heap.size = gp := by omega
  have ne4 : ¬ w.heap.size = g := by omega
  have y0 : w.cell? ⟨g, i * 5, none⟩ = some (.int .i32 ((allT z i).length : Nat)) := T.out.cell h (j := 0) (by omega)
  have y1 : w.cell? ⟨g, i * 5 + 1, none⟩ = some (.int .i32 ((txtL (kl z i)).length : Nat)) := T.out.cell h (j := 1) (by omega)
  have y2 : w.cell? ⟨g, i * 5 + 2, none⟩ = some (.int .u16 0) := T.out.cell h (j := 2) (by omega)
  have y3 : w.cell? ⟨g, i * 5 + 3, none⟩ = some (.int .u8 (kd (kl z i))) := T.out.cell h (j := 3) (by omega)
  have y4 : w.cell? ⟨g, i * 5 + 4, none⟩ = some (.int .u8 0) := T.out.cell h (j := 4) (by omega)
  unfold tkv
  generalize (((allT z i).length : Nat) : Int) = s0 at *
  generalize (((txtL (kl z i)).length : Nat) : Int) = s1 at *
  generalize kd (kl z i) = s3 at *
  go_enter Tryf.func30, Tryf.ntmps30
  go_wp2
  refine bodyPost_ret (v := .agg #[.int .i32 s0, .int .i32 s1, .int .u16 0, .int .u8 s3, .int .u8 0]) (by simp [results, Tryf.results30, go_sem]) rfl ⟨rfl, ?_⟩
  exact (Below.refl _ _).alloc (Nat.le_refl _) _
set_option maxRecDepth 100000 in
set_option maxHeartbeats 1000000 in
theorem cur (gp g n ix : Nat) (c : ByteArray) (z : Nat → Int) (w : World) (hP : Par w gp g n c ix (tk z)) (hn : n ≤ 1048576) (h : ix < n) :
    Calls Tryf.prog 22 #[.pointer (some ⟨gp, 0, none⟩)] w fun e w' => e = .returned (tkv z ix) ∧ Below w.heap.size w w' := by
  have c2 := hP.1.2.1
  have hgp : gp < w.heap.size := hP.2.2.2
  have HP := Lib.hid (fun (o : Obj) => at_any gp g n ix ix c z (w.alloc o) (hP.below ((Below.refl _ _).alloc (Nat.le_refl _) o) hgp) hn h)
  clear hP
  unfold tkv at HP ⊢
  generalize (((allT z ix).length : Nat) : Int) = s0 at *
  generalize (((txtL (kl z ix)).length : Nat) : Int) = s1 at *
  generalize kd (kl z ix) = s3 at *
  go_enter Tryf.func22, Tryf.ntmps22
  go_wp2_with fail
  refine (HP.out _).mono ?_
  rintro e w1 ⟨rfl, hb⟩
  have hz : w.heap.size < w1.heap.size := by have := hb.size; simp at this; omega
  have k0 := hb.cell (p := ⟨w.heap.size, 0, none⟩) (by simp)
  have k1 := hb.cell (p := ⟨w.heap.size, 1, none⟩) (by simp)
  have k2 := hb.cell (p := ⟨w.heap.size, 2, none⟩) (by simp)
  have k3 := hb.cell (p := ⟨w.heap.size, 3, none⟩) (by simp)
  have k4 := hb.cell (p := ⟨w.heap.size, 4, none⟩) (by simp)
  have f0 := hb.frozen (p := ⟨w.heap.size, 0, none⟩) (by simp)
  have f1 := hb.frozen (p := ⟨w.heap.size, 1, none⟩) (by simp)
  have f2 := hb.frozen (p := ⟨w.heap.size, 2, none⟩) (by simp)
  have f3 := hb.frozen (p := ⟨w.heap.size, 3, none⟩) (by simp)
  have f4 := hb.frozen (p := ⟨w.heap.size, 4, none⟩) (by simp)
  simp [go_sem] at k0 k1 k2 k3 k4 f0 f1 f2 f3 f4
  go_wp2
  refine bodyPost_ret (v := .agg #[.int .i32 s0, .int .i32 s1, .int .u16 0, .int .u8 s3, .int .u8 0]) (by simp [results, Tryf.results22, go_sem, k0, k1, k2, k3, k4]) rfl ⟨rfl, ?_⟩
  exact (((((((Below.refl _ _).alloc (Nat.le_refl _) _).trans (hb.mono (by simp))).setCell (Nat.le_refl _) _).setCell (Nat.le_refl _) _).setCell (Nat.le_refl _) _).setCell (Nat.le_refl _) _).setCell (Nat.le_refl _) _
theorem fldK (a b c k d : Int) (w : World) : (Instr.field 48 (.agg #[.int .i32 a, .int .i32 b, .int .u16 c, .int .u8 k, .int .u8 d]) 2).run Tryf.prog w = .ok (.int .u8 k) w := by kernel_rfl
set_option maxRecDepth 100000 in
theorem peek (gp g n ix : Nat) (k0 : Int) (c : ByteArray) (z : Nat → Int) (w : World) (hP : Par w gp g n c ix (tk z)) (hn : n ≤ 1048576) (h : ix < n) :
    Calls Tryf.prog 26 #[.pointer (some ⟨gp, 0, none⟩), .int .u8 k0] w fun e w' => e = .returned (.bool (k0 == kd (kl z ix))) ∧ Below w.heap.size w w' := by
  have HP := Lib.hid (cur gp g n ix c z w hP hn h)
  clear hP
  unfold tkv at HP
  generalize (((allT z ix).length : Nat) : Int) = s0 at *
  generalize (((txtL (kl z ix)).length : Nat) : Int) = s1 at *
  generalize kd (kl z ix) = s3 at *
  have FK := fldK
  go_enter Tryf.func26, Tryf.ntmps26
  go_wp2_with fail
  refine HP.out.mono ?_
  rintro e w1 ⟨rfl, hb⟩
  have HB := Lib.hid hb
  clear hb
  go_wp2
  go_ret
  exact ⟨rfl, HB.out⟩
set_option maxRecDepth 100000 in
theorem eat_no (gp g n ix : Nat) (k0 : Int) (c : ByteArray) (z : Nat → Int) (w : World) (hP : Par w gp g n c ix (tk z)) (hn : n ≤ 1048576) (h : ix < n) (hk : (k0 == kd (kl z ix)) = false) :
    Calls Tryf.prog 25 #[.pointer (some ⟨gp, 0, none⟩), .int .u8 k0] w fun e w' => e = .returned (.bool false) ∧ Par w' gp g n c ix (tk z) ∧ Below gp w w' := by
  have H := peek gp g n ix k0 c z w hP hn h
  rw [hk] at H
  have HP := Lib.hid H
  have PP := Lib.hid hP
  clear hP H hk
  go_enter Tryf.func25, Tryf.ntmps25
  go_wp2_with fail
  refine HP.out.mono ?_
  rintro e w1 ⟨rfl, hb⟩
  have HB := Lib.hid hb
  clear hb
  go_wp2
  go_ret
  exact ⟨rfl, PP.out.below HB.out PP.out.2.2.2, HB.out.mono (Nat.le_of_lt PP.out.2.2.2)⟩
set_option maxRecDepth 100000 in
theorem eat_yes (gp g n ix : Nat) (k0 : Int) (c : ByteArray) (z : Nat → Int) (w : World) (hP : Par w gp g n c ix (tk z)) (hn : n ≤ 1048576) (h : ix < n) (hk : k0 = kd (kl z ix)) :
    Calls Tryf.prog 25 #[.pointer (some ⟨gp, 0, none⟩), .int .u8 k0] w fun e w' => e = .returned (.bool true) ∧ Par w' gp g n c (ix + 1) (tk z) ∧ Below gp w w' := by
  have H := peek gp g n ix k0 c z w hP hn h
  rw [show (k0 == kd (kl z ix)) = true by rw [hk]; exact beq_self_eq_true _] at H
  have HP := Lib.hid H
  have PP := Lib.hid hP
  have AD := Lib.hid (fun w1 (hb : Below w.heap.size w w1) => adv gp g n ix c (tk z) w1 (hP.below hb hP.2.2.2) hn h)
  clear hP H hk
  go_enter Tryf.func25, Tryf.ntmps25
  go_wp2_with fail
  refine HP.out.mono ?_
  rintro e w1 ⟨rfl, hb⟩
  have HB := Lib.hid hb
  clear hb
  go_wp2_with fail
  refine (AD.out _ HB.out).mono ?_
  rintro e w2 ⟨rfl, hp2, hb2⟩
  have HP2 := Lib.hid hp2
  have HB2 := Lib.hid hb2
  clear hp2 hb2
  go_wp2
  go_ret
  exact ⟨rfl, HP2.out, (HB.out.mono (Nat.le_of_lt PP.out.2.2.2)).trans HB2.out⟩
set_option maxRecDepth 100000 in
set_option maxHeartbeats 1000000 in
theorem expM (gp g n ix : Nat) (k0 q : Int) (c : ByteArray) (z : Nat → Int) (w : World) (hP : Par w gp g n c ix (tk z)) (hn : n ≤ 1048576) (h : ix < n) (hk : k0 = kd (kl z ix)) :
    Calls Tryf.prog 27 #[.pointer (some ⟨gp, 0, none⟩), .int .u8 k0, .agg #[.int .i32 q]] w fun e w' => e = .returned (.bool true) ∧ Par w' gp g n c (ix + 1) (tk z) ∧ Below gp w w' := by
  have PP := Lib.hid hP
  have AD := Lib.hid (fun w1 (hb : Below w.heap.size w w1) => eat_yes gp g n ix k0 c z w1 (hP.below hb hP.2.2.2) hn h hk)
  have START := Lib.hid (fun (o : Obj) => show Below w.heap.size w (w.alloc o) from (Below.refl _ w).alloc (Nat.le_refl _) o)
  clear hP hk
  go_enter Tryf.func27, Tryf.ntmps27
  go_wp2_with fail
  refine (AD.out _ (START.out _)).mono ?_
  rintro e w2 ⟨rfl, hp2, hb2⟩
  have HP2 := Lib.hid hp2
  have HB2 := Lib.hid (((START.out _).mono (Nat.le_of_lt PP.out.2.2.2)).trans hb2)
  clear hp2 hb2
  go_wp2
  go_ret
  exact ⟨rfl, HP2.out, HB2.out⟩
set_option maxRecDepth 100000 in
theorem expe (gp g n ix : Nat) (k0 : Int) (c : ByteArray) (z : Nat → Int) (w : World) (hP : Par w gp g n c ix (tk z)) (hn : n ≤ 1048576) (h : ix < n) (hk : k0 = kd (kl z ix)) :
    Calls Tryf.prog 24 #[.pointer (some ⟨gp, 0, none⟩), .int .u8 k0] w fun e w' => e = .returned (.bool true) ∧ Par w' gp g n c (ix + 1) (tk z) ∧ Below gp w w' := by
  have AD := Lib.hid (fun q => expM gp g n ix k0 q c z w hP hn h hk)
  have B36 := @bld36
  clear hP hk
  go_enter Tryf.func24, Tryf.ntmps24
  go_wp2_with fail
  refine (AD.out _).mono ?_
  rintro e w2 ⟨rfl, hp2, hb2⟩
  have HP2 := Lib.hid hp2
  have HB2 := Lib.hid hb2
  clear hp2 hb2
  go_wp2
  go_ret
  exact ⟨rfl, HP2.out, HB2.out⟩
set_option maxRecDepth 100000 in
theorem rend (a b : Int) (w : World) (h0 : 0 ≤ a) (h1 : a ≤ 100000000) (h2 : 0 ≤ b) (h3 : b ≤ 100) :
    Calls Tryf.prog 23 #[.agg #[.int .i32 a, .int .i32 b]] w fun e w' => e = .returned (.int .i32 (a + b)) ∧ Below w.heap.size w w' := by
  go_enter Tryf.func23, Tryf.ntmps23
  go_wp2
  go_ret
  exact ⟨rfl, (Below.refl _ _).alloc (Nat.le_refl _) _⟩
end Go.Proofs.YtajkdjheoefbcaaFmt.ZA
