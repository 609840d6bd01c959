/- strings.IndexRune at "eE" and a rune beyond ASCII. -/
import Derived.Test.YtpbmjomfapnpnaaFmtShelf
import Derived.WalkKit
import Derived.WalkLawsBesides
import Derived.WalkSpells
import Derived.Lib.Hide
import Derived.Outline
import Derived.LoopTactic
import Derived.RegionTactic
import Derived.BigRegion
import Derived.BigQuiet
import Derived.Deep.QuietTactic
import Derived.Deep.RegionWith
import Derived.Deep.LoopGhost
import Derived.Laws.RangeAny
import Derived.WalkMore
import Derived.Laws.IdiomStrings
namespace Go.Proofs.YtpbmjomfapnpnaaFmt.PA
open Go Go.RowKit
set_option linter.unusedVariables false
abbrev eE : ByteArray := ⟨#[101, 69]⟩
set_option maxRecDepth 100000 in
set_option maxHeartbeats 1000000 in
theorem rune_bad (r : Int) (w : World) (h : 128 ≤ r) (h2 : r ≤ 2147483647) (hr : r ≠ 65533) (hv : Lib.validRune r = false) :
    Calls Tryf.prog 22 #[.string eE, .int .i32 r] w fun e w' => e = .returned (.int .i64 (-1)) ∧ Below w.heap.size w w' := by
  have q1 : decide ((0 : Int) ≤ r) = true := by rw [decide_eq_true_eq]; omega
  have q2 : decide (r < (128 : Int)) = false := by rw [decide_eq_false_iff_not]; omega
  have q3 : (r == (65533 : Int)) = false := by rw [beq_eq_false_iff_ne]; exact hr
  have V := Lib.hid (Tryf.utf8_ValidRune r w)
  rw [hv] at V
  clear hv hr
  go_enter Tryf.func22, Tryf.ntmps22
  go_wp2_with (go_at_call 32; refine V.out.mono ?_; rintro e w' ⟨rfl, rfl⟩)
  go_ret
  exact ⟨rfl, Below.refl _ _⟩
set_option maxRecDepth 100000 in
set_option maxHeartbeats 1000000 in
theorem rune_err (w : World) :
    Calls Tryf.prog 22 #[.string eE, .int .i32 65533] w fun e w' => e = .returned (.int .i64 (-1)) ∧ Below w.heap.size w w' := by
  have n0 := fun ty => (show (Instr.next (.pointer (some ⟨w.heap.size, 0, none⟩)) true ty).run Tryf.prog (w.iter eE 0) = .ok (.tuple #[.bool true, .int .i64 0, .int .i32 101]) (w.iter eE 1) from run_next_ascii (P := Tryf.prog) w eE 0 ty (by decide) (by decide))
  have n1 := fun ty => (show (Instr.next (.pointer (some ⟨w.heap.size, 0, none⟩)) true ty).run Tryf.prog (w.iter eE 1) = .ok (.tuple #[.bool true, .int .i64 1, .int .i32 69]) (w.iter eE 2) from run_next_ascii (P := Tryf.prog) w eE 1 ty (by decide) (by decide))
  have n2 := fun ty => run_next_end (P := Tryf.prog) w eE 2 ty (by decide)
  go_enter Tryf.func22, Tryf.ntmps22
  go_wp2_with fail
  go_loopg [] 2 (fun k wx => (k = 2 ∧ wx = w.iter eE 0) ∨ (k = 1 ∧ wx = w.iter eE 1) ∨ (k = 0 ∧ wx = w.iter eE 2))
  case atStart => exact .inl ⟨rfl, rfl⟩
  case round =>
    rcases hrel with ⟨rfl, rfl⟩ | ⟨rfl, rfl⟩ | ⟨rfl, rfl⟩
    · go_wp2_with fail
      go_roundg 1
      case measure => omega
      case rel => exact .inr (.inl ⟨rfl, rfl⟩)
    · go_wp2_with fail
      go_roundg 0
      case measure => omega
      case rel => exact .inr (.inr ⟨rfl, rfl⟩)
    · go_wp2_with fail
      go_ret
      exact ⟨rfl, (Below.refl _ _).alloc (Nat.le_refl _) _⟩
theorem enc2 (r : Int) (h : 128 ≤ r) (h2 : r < 2048) : ∃ a b : UInt8, Utf8.encode r = ⟨#[a, b]⟩ ∧ 128 ≤ b.toNat := by
  have hv : Utf8.valid r = true := by unfold Utf8.valid; simp; omega
  refine ⟨UInt8.ofNat (192 + r.toNat / 64), UInt8.ofNat (128 + r.toNat % 64), ?_, ?_⟩
  · unfold Utf8.encode
    simp only [hv, if_true]
    rw [if_neg (by omega), if_pos (by omega)]
  · simp [UInt8.toNat_ofNat]; omega
theorem enc3 (r : Int) (h : 2048 ≤ r) (hv : Lib.validRune r = true) : 3 ≤ (Utf8.encode r).size ∧ (Utf8.encode r).size ≤ 4 := by
  have hv' : Utf8.valid r = true := by
    unfold Lib.validRune at hv
    rw [decide_eq_true_eq] at hv
    unfold Utf8.valid; simp; omega
  unfold Utf8.encode
  simp only [hv', if_true]
  rw [if_neg (by omega), if_neg (by omega)]
  split <;> simp [ByteArray.size]
set_option maxRecDepth 100000 in
set_option maxHeartbeats 1000000 in
theorem rune_3 (r : Int) (w : World) (h : 2048 ≤ r) (h2 : r ≤ 2147483647) (hr : r ≠ 65533) (hv : Lib.validRune r = true) :
    Calls Tryf.prog 22 #[.string eE, .int .i32 r] w fun e w' => e = .returned (.int .i64 (-1)) ∧ Below w.heap.size w w' := by
  have q1 : decide ((0 : Int) ≤ r) = true := by rw [decide_eq_true_eq]; omega
  have q2 : decide (r < (128 : Int)) = false := by rw [decide_eq_false_iff_not]; omega
  have q3 : (r == (65533 : Int)) = false := by rw [beq_eq_false_iff_ne]; exact hr
  have V := Lib.hid (Tryf.utf8_ValidRune r w)
  obtain ⟨s1, s2⟩ := enc3 r h hv
  have hc : ∀ w, (convert 21 9 (.int .i32 r)).run Tryf.prog w = .ok (.string (Utf8.encode r)) w := fun w => by kernel_rfl
  rw [hv] at V
  generalize Utf8.encode r = E at *
  have q4 : decide ((E.size : Int) - 1 < 2) = false := by rw [decide_eq_false_iff_not]; omega
  have q5 : ¬ ((E.size : Int) - 1 < 2) := by omega
  clear hv hr
  go_enter Tryf.func22, Tryf.ntmps22
  go_wp2_with (go_at_call 32; refine V.out.mono ?_; rintro e w' ⟨rfl, rfl⟩)
  go_step3
  go_wp2_with fail
  go_loopg [9] 0 (fun k i wx => i = .int .i64 ((E.size : Int) - 1) ∧ wx = w')
  case atStart => exact ⟨rfl, rfl⟩
  case round =>
    obtain ⟨rfl, rfl⟩ := hrel
    go_wp2_with fail
    rw [Exit.noGoto_ret]
    go_ret
    exact ⟨rfl, Below.refl _ _⟩
theorem below_dn (w : World) (k : Nat) : Below w.heap.size w (w.drewN k) := ⟨rfl, rfl, rfl, Nat.le_refl _, fun _ _ => rfl⟩
set_option maxRecDepth 100000 in
set_option maxHeartbeats 1000000 in
theorem rune_2 (r : Int) (w : World) (h : 128 ≤ r) (h2 : r < 2048) :
    Calls Tryf.prog 22 #[.string eE, .int .i32 r] w fun e w' => e = .returned (.int .i64 (-1)) ∧ Below w.heap.size w w' := by
  have hv : Lib.validRune r = true := by unfold Lib.validRune; rw [decide_eq_true_eq]; omega
  have q1 : decide ((0 : Int) ≤ r) = true := by rw [decide_eq_true_eq]; omega
  have q2 : decide (r < (128 : Int)) = false := by rw [decide_eq_false_iff_not]; omega
  have q3 : (r == (65533 : Int)) = false := by rw [beq_eq_false_iff_ne]; omega
  have V := Lib.hid (Tryf.utf8_ValidRune r w)
  obtain ⟨a, b, hE, hb⟩ := enc2 r h h2
  have hc : ∀ w, (convert 21 9 (.int .i32 r)).run Tryf.prog w = .ok (.string ⟨#[a, b]⟩) w := fun w => by rw [← hE]; kernel_rfl
  have IB := Lib.hid (fun W => (show Calls Tryf.prog 11 #[.string ⟨#[]⟩, .int .u8 (b.toNat : Int)] W fun e w' => e = .returned (.int .i64 (-1)) ∧ w' = W from Tryf.strings_IndexByte ⟨#[]⟩ (b.toNat : Int) W))
  have n0 : (((69 : Int)) != (b.toNat : Int)) = true := by rw [bne_iff_ne]; omega
  have n1 : ((((eE[1]'(by decide)).toNat : Nat) : Int) != ((((⟨#[a, b]⟩ : ByteArray)[1]'(by simp [ByteArray.size])).toNat : Nat) : Int)) = true := n0
  rw [hv] at V
  clear hv hE
  go_enter Tryf.func22, Tryf.ntmps22
  go_wp2_with (go_at_call 32; refine V.out.mono ?_; rintro e w' ⟨rfl, rfl⟩)
  go_step3
  go_wp2_with fail
  go_loopg [9] 0 (fun k i wx => i = .int .i64 1 ∧ wx = w')
  case atStart => exact ⟨rfl, rfl⟩
  case round =>
    obtain ⟨rfl, rfl⟩ := hrel
    go_wp2_with fail
    go_step3
    go_wp2_with fail
    go_quiet (fail)
    go_wp2_with fail
    go_region_with (first | (go_at_call 11; refine (IB.out _).mono ?_; rintro e w' ⟨rfl, rfl⟩))
    go_wp2_with fail
    all_goals
      go_simp
      go_ret
      exact ⟨rfl, below_dn _ _⟩
/-- Whatever rune beyond ASCII: not found. -/
theorem rune_high (r : Int) (w : World) (h : 128 ≤ r) (h2 : r ≤ 2147483647) :
    Calls Tryf.prog 22 #[.string eE, .int .i32 r] w fun e w' => e = .returned (.int .i64 (-1)) ∧ Below w.heap.size w w' := by
  by_cases hr : r = 65533
  · subst hr; exact rune_err w
  cases hv : Lib.validRune r with
  | false => exact rune_bad r w h h2 hr hv
  | true =>
    by_cases h3 : r < 2048
    · exact rune_2 r w h h3
    · exact rune_3 r w (by omega) h2 hr hv
end Go.Proofs.YtpbmjomfapnpnaaFmt.PA
