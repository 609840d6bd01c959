/- FnMangleCornersCaseTable: what the law's ends need of memory. -/
import Derived.Test.YtnolnlekdlfeaaaDoorMr
import Derived.Test.YtnolnlekdlfeaaaDoorMo
import Derived.Test.YtnolnlekdlfeaaaDoorMf
namespace Go.Proofs.YtnolnlekdlfeaaaDoor.ZT
open Go.RowKit Go.Proofs.YtnolnlekdlfeaaaDoor.TB
set_option linter.unusedVariables false
theorem KJ.fresh {w : World} {rg d : Nat} {l : Int} (hr : Tab w rg 54 2 1 (rc (fun _ => some d) (fun _ => l))) (t1 t2 : TypeId) :
    KJ rg w.heap.size (w.heap.size + 1) 0 d l ((w.alloc (.cells #[.pointer (some ⟨d, 0, none⟩)] t1)).alloc (.cells #[.int .i32 l] t2)) ((w.alloc (.cells #[.pointer (some ⟨d, 0, none⟩)] t1)).alloc (.cells #[.int .i32 l] t2)) ∧
    Below w.heap.size w ((w.alloc (.cells #[.pointer (some ⟨d, 0, none⟩)] t1)).alloc (.cells #[.int .i32 l] t2)) := by
  have h1 := Blk.new w t1 #[.pointer (some ⟨d, 0, none⟩)]
  have h2 := Blk.new (w.alloc (.cells #[.pointer (some ⟨d, 0, none⟩)] t1)) t2 #[.int .i32 l]
  have hs : (w.alloc (.cells #[.pointer (some ⟨d, 0, none⟩)] t1)).heap.size = w.heap.size + 1 := by simp
  rw [hs] at h2
  have h3 := h1.alloc (.cells #[.int .i32 l] t2)
  have h4 := (hr.alloc (.cells #[.pointer (some ⟨d, 0, none⟩)] t1)).alloc (.cells #[.int .i32 l] t2)
  exact ⟨⟨Below.refl _ _, h4.lt, h3.lt, h2.lt, h4.cell (i := 0) (j := 0) (by omega) (by omega), h4.cell (i := 0) (j := 1) (by omega) (by omega), h3.cell 0, h2.cell 0⟩,
    ((Below.refl _ _).alloc (Nat.le_refl _) _).alloc (by simp) _⟩
/-- One token of the declaration and one code. -/
def KT (wr : World) (d tb p b o n : Nat) (tk : ByteArray) (kk y : Int) (w' : World) : Prop :=
  Below wr.heap.size wr w' ∧ d < wr.heap.size ∧ tb < wr.heap.size ∧ b < wr.heap.size ∧ w'.cell? ⟨d, 1, none⟩ = some (.slice (some ⟨tb, 0, none⟩) n n) ∧ w'.cell? ⟨tb, p * 7, none⟩ = some (.pointer none) ∧ w'.cell? ⟨tb, p * 7 + 1, none⟩ = some (.string tk) ∧ w'.cell? ⟨tb, p * 7 + 2, none⟩ = some (.int .i32 0) ∧ w'.cell? ⟨tb, p * 7 + 3, none⟩ = some (.int .u32 0) ∧ w'.cell? ⟨tb, p * 7 + 4, none⟩ = some (.int .u16 0) ∧ w'.cell? ⟨tb, p * 7 + 5, none⟩ = some (.int .u8 kk) ∧ w'.cell? ⟨tb, p * 7 + 6, none⟩ = some (.int .u8 0) ∧ w'.cell? ⟨b, o + p, none⟩ = some (.int .u8 y)
theorem KT.step {wr : World} {d tb p b o n : Nat} {tk : ByteArray} {kk y : Int} {w1 w2 : World} (h : KT wr d tb p b o n tk kk y w1) (hb : Below w1.heap.size w1 w2) : KT wr d tb p b o n tk kk y w2 := by
  obtain ⟨h0, h1, h2, h3, x0, x1, x2, x3, x4, x5, x6, x7, x8⟩ := h
  have e1 : d < w1.heap.size := Nat.lt_of_lt_of_le h1 h0.size
  have e2 : tb < w1.heap.size := Nat.lt_of_lt_of_le h2 h0.size
  have e3 : b < w1.heap.size := Nat.lt_of_lt_of_le h3 h0.size
  exact ⟨h0.trans (hb.mono h0.size), h1, h2, h3, (hb.cell e1).trans x0, (hb.cell e2).trans x1, (hb.cell e2).trans x2, (hb.cell e2).trans x3, (hb.cell e2).trans x4, (hb.cell e2).trans x5, (hb.cell e2).trans x6, (hb.cell e2).trans x7, (hb.cell e3).trans x8⟩
theorem wrap_small (x : Int) (h0 : 0 ≤ x) (h1 : x ≤ 4000000) : wrap64 x = x ∧ IntKind.i64.wrap x = x := ⟨by unfold wrap64; omega, by rw [IntKind.wrap_i64]; omega⟩
theorem fl_mloc (l : Int) : fL (fun _ => l) (fun _ => 0) 0 = mloc l 4 := by
  simp only [fL, ml, lk, mloc]
  by_cases h : 0 < l <;> simp [h]
theorem put4 {w : World} {g : Nat} {t : TypeId} {a0 a1 a2 a3 b0 b1 b2 b3 : Value} (h : Blk w g t #[a0, a1, a2, a3]) : Blk ((((w.setCell ⟨g, 0, none⟩ b0).setCell ⟨g, 1, none⟩ b1).setCell ⟨g, 2, none⟩ b2).setCell ⟨g, 3, none⟩ b3) g t #[b0, b1, b2, b3] := by
  have := (((h.set_ 0 b0).set_ 1 b1).set_ 2 b2).set_ 3 b3
  simpa using this
theorem info40 : (Tryd.prog.info? 40).map (fun i => (i.zero, i.size, i.bytes)) = some (some (.agg #[.string ⟨#[]⟩, .slice none 0 0, .int .i32 0, .int .i32 0, .int .u16 0, .bool false]), 6, 56) := by kernel_rfl
set_option maxRecDepth 100000 in
theorem other40 {w : World} {d d' : Nat} {c c' : Array Value} (h' : Blk w d' 40 c') (h : Blk w d 40 c) (hne : d ≠ d') : (binOp .eql 25 (.pointer (some ⟨d', 0, none⟩)) (.pointer (some ⟨d, 0, none⟩))).run Tryd.prog w = .ok (.bool false) w := by
  have hn : (⟨d', 0, none⟩ : Addr) ≠ ⟨d, 0, none⟩ := fun e => hne (congrArg Addr.block e).symm
  obtain ⟨j, hj, -, hs, -⟩ := info_parts info40
  have h6 : j.size ≠ 0 := fun h0 => Nat.succ_ne_zero 5 (hs.symm.trans h0)
  exact run_eql_ptr_other (P := Tryd.prog) (w := w) (tp := 25) (te := 40) Tryd.underlying25 hj h6 hn h' h
theorem acc_small {n : Nat} {Q : Nat → Nat} {bs es : Nat} (h : Acc n Q bs es) (hq : ∀ i, i < n → Q i < 8) : (∀ i, i < 4 → qa Q bs i < 5) ∧ ∀ i, i < 4 → qb Q bs es n i < 5 := by
  obtain ⟨sp, ⟨b1, b4⟩, he, h56⟩ := h
  have hle := sp.le (Nat.le_refl _)
  have sm : ∀ i, i < n → Q i ≠ 7 → Q i < 5 := fun i hi h7 => by
    have a := hq i hi
    have b := h56 i hi
    omega
  have qa5 : ∀ i, i < 4 → qa Q bs i < 5 := fun i hi => by
    have hs := selt b1 hi
    refine sm _ (by omega) ?_
    rcases sp with ⟨_, _, h3⟩ | ⟨_, _, _, h4⟩
    · exact h3 _ (by omega)
    · exact h4 _ (by omega) (by omega)
  refine ⟨qa5, fun i hi => ?_⟩
  unfold qb
  split
  · rename_i hb
    have h2 := he hb
    have hs := selt h2.1 hi
    refine sm _ (by omega) ?_
    rcases sp with ⟨_, _, h3⟩ | ⟨_, _, _, h4⟩
    · exact h3 _ (by omega)
    · exact h4 _ (by omega) (by omega)
  · exact qa5 i hi
/-- What the law's last line loads. -/
def RZ (wr : World) (krb d' g1 tg L cp : Nat) (l : Int) (a0 a1 a2 a3 b0 b1 b2 b3 : Int) (w' : World) : Prop :=
  Below wr.heap.size wr w' ∧ krb < wr.heap.size ∧ d' < wr.heap.size ∧ g1 < wr.heap.size ∧ g1 + 1 < wr.heap.size ∧ w'.cell? ⟨krb, 0, none⟩ = some (.int .i32 l) ∧ w'.cell? ⟨krb, 1, none⟩ = some (.int .i32 13) ∧ w'.cell? ⟨d', 1, none⟩ = some (.slice (some ⟨tg, 0, none⟩) L cp) ∧
  w'.cell? ⟨g1, 0, none⟩ = some (.int .u8 a0) ∧ w'.cell? ⟨g1, 1, none⟩ = some (.int .u8 a1) ∧ w'.cell? ⟨g1, 2, none⟩ = some (.int .u8 a2) ∧ w'.cell? ⟨g1, 3, none⟩ = some (.int .u8 a3) ∧
  w'.cell? ⟨g1 + 1, 0, none⟩ = some (.int .u8 b0) ∧ w'.cell? ⟨g1 + 1, 1, none⟩ = some (.int .u8 b1) ∧ w'.cell? ⟨g1 + 1, 2, none⟩ = some (.int .u8 b2) ∧ w'.cell? ⟨g1 + 1, 3, none⟩ = some (.int .u8 b3)
theorem RZ.step {wr : World} {krb d' g1 tg L cp : Nat} {l : Int} {a0 a1 a2 a3 b0 b1 b2 b3 : Int} {w1 w2 : World} (h : RZ wr krb d' g1 tg L cp l a0 a1 a2 a3 b0 b1 b2 b3 w1) (hb : Below w1.heap.size w1 w2) : RZ wr krb d' g1 tg L cp l a0 a1 a2 a3 b0 b1 b2 b3 w2 := by
  obtain ⟨h0, h1, h2, h3, h4, x0, x1, x2, x3, x4, x5, x6, x7, x8, x9, x10⟩ := h
  have e1 : krb < w1.heap.size := Nat.lt_of_lt_of_le h1 h0.size
  have e2 : d' < w1.heap.size := Nat.lt_of_lt_of_le h2 h0.size
  have e3 : g1 < w1.heap.size := Nat.lt_of_lt_of_le h3 h0.size
  have e4 : g1 + 1 < w1.heap.size := Nat.lt_of_lt_of_le h4 h0.size
  exact ⟨h0.trans (hb.mono h0.size), h1, h2, h3, h4, (hb.cell e1).trans x0, (hb.cell e1).trans x1, (hb.cell e2).trans x2, (hb.cell e3).trans x3, (hb.cell e3).trans x4, (hb.cell e3).trans x5, (hb.cell e3).trans x6, (hb.cell e4).trans x7, (hb.cell e4).trans x8, (hb.cell e4).trans x9, (hb.cell e4).trans x10⟩
end Go.Proofs.YtnolnlekdlfeaaaDoor.ZT
