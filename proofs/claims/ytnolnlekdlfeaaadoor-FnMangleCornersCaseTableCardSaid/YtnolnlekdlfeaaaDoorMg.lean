/- FnMangleCornersCaseTable: small functions of the law. -/
import Derived.Test.YtnolnlekdlfeaaaDoorMe
namespace Go.Proofs.YtnolnlekdlfeaaaDoor.ZT
open Go.RowKit Go.Proofs.YtnolnlekdlfeaaaDoor.TB
set_option linter.unusedVariables false
set_option maxRecDepth 100000 in
theorem same9q (c ws : Int) (q : Nat) (w : World) (hq : q < 8) (hc : c % 8 = (q : Int)) (h0 : 0 ≤ c) (h1 : c ≤ 255) : Calls Tryd.prog 9 #[.agg #[.pointer none, .string (tq q), .int .i32 0, .int .u32 0, .int .u16 0, .int .u8 (kq q), .int .u8 ws], .int .u8 c] w fun e w' => e = .returned (.bool true) ∧ Below w.heap.size w w' := by
  obtain ⟨tk, HTK⟩ : ∃ tk, Hid (tq q = tk) := ⟨_, Lib.hid rfl⟩
  obtain ⟨kk, HKK⟩ : ∃ kk, Hid (kq q = kk) := ⟨_, Lib.hid rfl⟩
  have TQ := Lib.hid (fun W => tok16q c q W hq hc h0 h1)
  rw [HTK.out, HKK.out] at TQ ⊢
  have N0 := Lib.hid (Blk.new w 47 #[.pointer none, .string tk, .int .i32 0, .int .u32 0, .int .u16 0, .int .u8 kk, .int .u8 ws])
  have BB := Lib.hid (show Below w.heap.size w (w.alloc (.cells #[.pointer none, .string tk, .int .i32 0, .int .u32 0, .int .u16 0, .int .u8 kk, .int .u8 ws] 47)) from (Below.refl _ _).alloc (Nat.le_refl _) _)
  go_enter Tryd.func9, Tryd.ntmps9
  go_wp2_with fail
  generalize w.alloc (.cells #[.pointer none, .string tk, .int .i32 0, .int .u32 0, .int .u16 0, .int .u8 kk, .int .u8 ws] 47) = W0 at *
  refine (TQ.out _).mono ?_
  rintro e w1 ⟨rfl, hb⟩
  have T1 := Lib.hid (N0.out.below hb N0.out.lt)
  have B1 := Lib.hid (BB.out.trans (hb.mono BB.out.size))
  have x5 : w1.cell? ⟨w.heap.size, 5, none⟩ = some (.int .u8 kk) := T1.out.cell 5
  have x1 : w1.cell? ⟨w.heap.size, 1, none⟩ = some (.string tk) := T1.out.cell 1
  have hlt := T1.out.lt
  have ne : ¬ w.heap.size = w1.heap.size := by omega
  have hle := B1.out.size
  clear hb N0 BB T1
  go_wp2_with fail
  go_ret
  exact ⟨by simp, B1.out.alloc hle _⟩
theorem bytes5 (A : Option Addr) (n c : Nat) (im mw : Bool) (l : Int) (w : World) (hn : n ≤ maxLen) : Calls Tryd.prog 5 #[.slice A n c, .bool im, .bool mw, .int .i32 l] w fun e w' => e = .returned (.bool (decide (n ≤ 1048576))) ∧ w = w' := by
  by_cases h : n ≤ 1048576
  · have q1 : ¬ (1048576 : Int) < (n : Int) := by omega
    go_enter Tryd.func5, Tryd.ntmps5
    go_wp2
    all_goals go_ret
    all_goals exact ⟨by first | (simp; done) | (simp; omega), rfl⟩
  · have q1 : (1048576 : Int) < (n : Int) := by omega
    go_enter Tryd.func5, Tryd.ntmps5
    go_wp2
    all_goals go_ret
    all_goals exact ⟨by first | (simp; done) | (simp; omega), rfl⟩
/-- Four codes spread out. -/
def x4 (z : Nat → Int) (n : Nat) : Value := .agg #[.int .u8 (z (sel n 0)), .int .u8 (z (sel n 1)), .int .u8 (z (sel n 2)), .int .u8 (z (sel n 3))]
set_option maxRecDepth 100000 in
set_option maxHeartbeats 1000000 in
theorem expand10_1 (b o c : Nat) (z : Nat → Int) (w : World) (hb : b < w.heap.size) (hc : ∀ i, i < 1 → w.cell? ⟨b, o + i, none⟩ = some (.int .u8 (z i))) :
    Calls Tryd.prog 10 #[.slice (some ⟨b, o, none⟩) 1 c] w fun e w' => e = .returned (x4 z 1) ∧ Below w.heap.size w w' := by
  have c0 : w.cell? ⟨b, o, none⟩ = some (.int .u8 (z 0)) := hc 0 (by omega)
  have ne : ¬ b = w.heap.size := by omega
  have ne1 : ¬ w.heap.size = b := by omega
  have ne2 : ¬ b = w.heap.size + 1 := by omega
  have ne3 : ¬ w.heap.size + 1 = b := by omega
  clear hc
  go_enter Tryd.func10, Tryd.ntmps10
  go_wp2
  refine bodyPost_ret (v := .agg #[.int .u8 (z 0), .int .u8 (z 0), .int .u8 (z 0), .int .u8 (z 0)]) (by simp [results, Tryd.results10, go_sem]; done) rfl ⟨rfl, ?_⟩
  exact ((Below.refl _ _).alloc (Nat.le_refl _) _).alloc (by simp) _
set_option maxRecDepth 100000 in
set_option maxHeartbeats 1000000 in
theorem expand10_2 (b o c : Nat) (z : Nat → Int) (w : World) (hb : b < w.heap.size) (hc : ∀ i, i < 2 → w.cell? ⟨b, o + i, none⟩ = some (.int .u8 (z i))) :
    Calls Tryd.prog 10 #[.slice (some ⟨b, o, none⟩) 2 c] w fun e w' => e = .returned (x4 z 2) ∧ Below w.heap.size w w' := by
  have c0 : w.cell? ⟨b, o, none⟩ = some (.int .u8 (z 0)) := hc 0 (by omega)
  have c1 : w.cell? ⟨b, o + 1, none⟩ = some (.int .u8 (z 1)) := hc 1 (by omega)
  have ne : ¬ b = w.heap.size := by omega
  have ne1 : ¬ w.heap.size = b := by omega
  have ne2 : ¬ b = w.heap.size + 1 := by omega
  have ne3 : ¬ w.heap.size + 1 = b := by omega
  clear hc
  go_enter Tryd.func10, Tryd.ntmps10
  go_wp2
  refine bodyPost_ret (v := .agg #[.int .u8 (z 0), .int .u8 (z 1), .int .u8 (z 0), .int .u8 (z 1)]) (by simp [results, Tryd.results10, go_sem]; done) rfl ⟨rfl, ?_⟩
  exact ((Below.refl _ _).alloc (Nat.le_refl _) _).alloc (by simp) _
set_option maxRecDepth 100000 in
set_option maxHeartbeats 1000000 in
theorem expand10_3 (b o c : Nat) (z : Nat → Int) (w : World) (hb : b < w.heap.size) (hc : ∀ i, i < 3 → w.cell? ⟨b, o + i, none⟩ = some (.int .u8 (z i))) :
    Calls Tryd.prog 10 #[.slice (some ⟨b, o, none⟩) 3 c] w fun e w' => e = .returned (x4 z 3) ∧ Below w.heap.size w w' := by
  have c0 : w.cell? ⟨b, o, none⟩ = some (.int .u8 (z 0)) := hc 0 (by omega)
  have c1 : w.cell? ⟨b, o + 1, none⟩ = some (.int .u8 (z 1)) := hc 1 (by omega)
  have c2 : w.cell? ⟨b, o + 2, none⟩ = some (.int .u8 (z 2)) := hc 2 (by omega)
  have ne : ¬ b = w.heap.size := by omega
  have ne1 : ¬ w.heap.size = b := by omega
  have ne2 : ¬ b = w.heap.size + 1 := by omega
  have ne3 : ¬ w.heap.size + 1 = b := by omega
  clear hc
  go_enter Tryd.func10, Tryd.ntmps10
  go_wp2
  refine bodyPost_ret (v := .agg #[.int .u8 (z 0), .int .u8 (z 1), .int .u8 (z 2), .int .u8 (z 1)]) (by simp [results, Tryd.results10, go_sem]; done) rfl ⟨rfl, ?_⟩
  exact ((Below.refl _ _).alloc (Nat.le_refl _) _).alloc (by simp) _
set_option maxRecDepth 100000 in
set_option maxHeartbeats 1000000 in
theorem expand10_4 (b o c : Nat) (z : Nat → Int) (w : World) (hb : b < w.heap.size) (hc : ∀ i, i < 4 → w.cell? ⟨b, o + i, none⟩ = some (.int .u8 (z i))) :
    Calls Tryd.prog 10 #[.slice (some ⟨b, o, none⟩) 4 c] w fun e w' => e = .returned (x4 z 4) ∧ Below w.heap.size w w' := by
  have c0 : w.cell? ⟨b, o, none⟩ = some (.int .u8 (z 0)) := hc 0 (by omega)
  have c1 : w.cell? ⟨b, o + 1, none⟩ = some (.int .u8 (z 1)) := hc 1 (by omega)
  have c2 : w.cell? ⟨b, o + 2, none⟩ = some (.int .u8 (z 2)) := hc 2 (by omega)
  have c3 : w.cell? ⟨b, o + 3, none⟩ = some (.int .u8 (z 3)) := hc 3 (by omega)
  have ne : ¬ b = w.heap.size := by omega
  have ne1 : ¬ w.heap.size = b := by omega
  have ne2 : ¬ b = w.heap.size + 1 := by omega
  have ne3 : ¬ w.heap.size + 1 = b := by omega
  clear hc
  go_enter Tryd.func10, Tryd.ntmps10
  go_wp2
  refine bodyPost_ret (v := .agg #[.int .u8 (z 0), .int .u8 (z 1), .int .u8 (z 2), .int .u8 (z 3)]) (by simp [results, Tryd.results10, go_sem]; done) rfl ⟨rfl, ?_⟩
  exact ((Below.refl _ _).alloc (Nat.le_refl _) _).alloc (by simp) _
theorem expand10 (b o n c : Nat) (z : Nat → Int) (w : World) (h1 : 1 ≤ n) (h4 : n ≤ 4) (hb : b < w.heap.size) (hc : ∀ i, i < n → w.cell? ⟨b, o + i, none⟩ = some (.int .u8 (z i))) :
    Calls Tryd.prog 10 #[.slice (some ⟨b, o, none⟩) n c] w fun e w' => e = .returned (x4 z n) ∧ Below w.heap.size w w' := by
  rcases (by omega : n = 1 ∨ n = 2 ∨ n = 3 ∨ n = 4) with rfl | rfl | rfl | rfl
  · exact expand10_1 b o c z w hb hc
  · exact expand10_2 b o c z w hb hc
  · exact expand10_3 b o c z w hb hc
  · exact expand10_4 b o c z w hb hc
end Go.Proofs.YtnolnlekdlfeaaaDoor.ZT
