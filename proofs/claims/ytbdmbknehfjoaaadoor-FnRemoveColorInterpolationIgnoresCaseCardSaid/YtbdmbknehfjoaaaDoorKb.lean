/- FnRemoveColorInterpolationIgnoresCase: sizes, copies, tokens. -/
import Derived.Test.YtbdmbknehfjoaaaDoorKa
namespace Go.Proofs.YtbdmbknehfjoaaaDoor.ZT
open Go.RowKit Go.Proofs.YtbdmbknehfjoaaaDoor.TB
set_option linter.unusedVariables false
def StrP (w : World) (e : Ending) (w' : World) : Prop := (∃ t, e = .returned (.int .i64 t)) ∧ w = w'
def BytesP (T : Nat → ByteArray) (n2 : Nat) (w : World) (e : Ending) (w' : World) : Prop := (∃ bb, e = .returned (.bool bb) ∧ (bb = true → ∀ i, i < n2 → (T i).size ≤ 1048576)) ∧ w = w'
def CloneU (n : Nat) (z : Nat → Int) (w : World) (e : Ending) (w' : World) : Prop := ∃ A' c', e = .returned (.slice A' n c') ∧ BR w' A' n z ∧ Below w.heap.size w w'
def CloneS (n : Nat) (z : Nat → ByteArray) (w : World) (e : Ending) (w' : World) : Prop := ∃ A' c', e = .returned (.slice A' n c') ∧ SR w' A' n z ∧ Below w.heap.size w w'
set_option maxRecDepth 100000 in
set_option maxHeartbeats 2000000 in
theorem str5 (A : Option Addr) (n c : Nat) (T : Nat → ByteArray) (w : World) (h : SR w A n T) (hn : n ≤ 65536) : Calls Tryd.prog 5 #[.slice A n c] w (StrP w) := by
  have H := Lib.hid h
  clear h
  go_enter Tryd.func5, Tryd.ntmps5
  go_wp2
  go_loopw [3, 4] (fun t i wr => wr = w ∧ ∃ (k : Nat) (s : Int), k ≤ n ∧ i = .int .i64 k ∧ t = .int .i64 s) (fun _ i _ => n - (intOf i).toNat)
  case atStart => exact ⟨rfl, 0, 0, Nat.zero_le _, rfl, rfl⟩
  case round =>
    obtain ⟨rfl, k, s, hk, rfl, rfl⟩ := hrel
    by_cases hlt : k < n
    · obtain ⟨b, o, e, hb, hc⟩ := H.out (by omega)
      subst e
      have z0 : wr.cell? ⟨b, o + k, none⟩ = some (.string (T k)) := hc k hlt
      have q1 : (0 : Int) ≤ (k : Int) := by omega
      have q2 : (k : Int) < (n : Int) := by omega
      clear hc
      go_wp2
      go_roundw
      case rel => exact ⟨by trivial, k + 1, _, by omega, by go_num, rfl⟩
      case measure => simp [intOf]; omega
    · obtain rfl : k = n := by omega
      go_wp2
      go_ret
      exact ⟨⟨_, rfl⟩, rfl⟩
set_option maxRecDepth 100000 in
set_option maxHeartbeats 2000000 in
theorem bytes4 (A1 A2 A3 : Option Addr) (n1 n2 n3 c1 c2 c3 : Nat) (T : Nat → ByteArray) (w : World) (h : SR w A2 n2 T) (h1 : n1 ≤ maxLen) (h2 : n2 ≤ maxLen) (h3 : n3 ≤ maxLen) :
    Calls Tryd.prog 4 #[.slice A1 n1 c1, .slice A2 n2 c2, .slice A3 n3 c3] w (BytesP T n2 w) := by
  have H := Lib.hid h
  unfold maxLen at h1 h2 h3
  have S0 := Lib.hid (show ∀ j, j < 0 → (T j).size ≤ 1048576 from fun j h => absurd h (by omega))
  clear h
  by_cases a1 : 1048576 < n1
  · have q : (1048576 : Int) < (n1 : Int) := by omega
    go_enter Tryd.func4, Tryd.ntmps4
    go_wp2
    go_ret
    exact ⟨⟨_, rfl, fun h => by simp at h⟩, rfl⟩
  · have q : ¬ (1048576 : Int) < (n1 : Int) := by omega
    by_cases a2 : 1048576 < n2
    · have q2 : (1048576 : Int) < (n2 : Int) := by omega
      go_enter Tryd.func4, Tryd.ntmps4
      go_wp2
      go_ret
      exact ⟨⟨_, rfl, fun h => by simp at h⟩, rfl⟩
    · have q2 : ¬ (1048576 : Int) < (n2 : Int) := by omega
      go_enter Tryd.func4, Tryd.ntmps4
      go_wp2
      · go_ret
        exact ⟨⟨_, rfl, fun h => by simp at h⟩, rfl⟩
      · go_loopw [7, 8] (fun t i wr => wr = w ∧ ∃ (k : Nat) (s : Int), k ≤ n2 ∧ i = .int .i64 k ∧ t = .int .i64 s ∧ Hid (∀ j, j < k → (T j).size ≤ 1048576)) (fun _ i _ => n2 - (intOf i).toNat)
        case atStart => exact ⟨rfl, 0, _, Nat.zero_le _, rfl, rfl, S0⟩
        case round =>
          obtain ⟨rfl, k, s, hk, rfl, rfl, AL⟩ := hrel
          clear S0
          by_cases hlt : k < n2
          · obtain ⟨b, o, e, hb, hc⟩ := H.out (by omega)
            subst e
            have z0 : wr.cell? ⟨b, o + k, none⟩ = some (.string (T k)) := hc k hlt
            have r1 : (0 : Int) ≤ (k : Int) := by omega
            have r2 : (k : Int) < (n2 : Int) := by omega
            clear hc
            by_cases hb : 1048576 < (T k).size
            · have r3 : (1048576 : Int) < ((T k).size : Int) := by omega
              go_wp2
              go_ret
              exact ⟨⟨_, rfl, fun h => by simp at h⟩, rfl⟩
            · have r3 : ¬ (1048576 : Int) < ((T k).size : Int) := by omega
              have AL2 := Lib.hid (show ∀ j, j < k + 1 → (T j).size ≤ 1048576 from fun j hj => by
                rcases Nat.lt_or_eq_of_le (Nat.le_of_lt_succ hj) with h1 | h1
                · exact AL.out j h1
                · subst h1; omega)
              clear hb
              go_wp2
              · go_ret
                exact ⟨⟨_, rfl, fun h => by simp at h⟩, rfl⟩
              · go_roundw
                case rel => exact ⟨by trivial, k + 1, _, by omega, by go_num, rfl, AL2⟩
                case measure => simp [intOf]; omega
          · obtain rfl : k = n2 := by omega
            go_wp2
            all_goals
              go_ret
              exact ⟨⟨_, rfl, fun _ => AL.out⟩, rfl⟩
set_option maxRecDepth 100000 in
set_option maxHeartbeats 1000000 in
theorem clone8 (A : Option Addr) (n c : Nat) (z : Nat → Int) (w : World) (r : BR w A n z) (hA : A = none → n = 0) (hn : n ≤ 1048576) :
    Calls Tryd.prog 8 #[.slice A n c] w (CloneU n z w) := by
  have eq1 := fun (w : World) (a : Option Addr) (n c n' c' : Nat) => Lib.run_eql_slice_nil (P := Tryd.prog) w 22 5 a n c n' c' Tryd.underlying22
  cases A with
  | none =>
    obtain rfl := hA rfl
    go_enter Tryd.func8, Tryd.ntmps8
    go_wp2
    go_ret
    exact ⟨none, 0, rfl, fun h => absurd h (by omega), Below.refl _ _⟩
  | some x =>
    obtain ⟨i0, hi, hz0, hz1, hz2⟩ := info_parts info5
    have hmk := fun (W : World) => run_make (P := Tryd.prog) W 22 5 i0 _ Tryd.underlying22 hi hz0 .i64 .i64 n n (by omega) (by omega) (by rw [hz2]; omega) (by omega)
    simp only [hz1, Int.toNat_natCast] at hmk
    have R := Lib.hid r
    clear r hA
    have T0 := Lib.hid (Tab.new w 5 #[.int .u8 0] n 1 rfl (fun i _ => if i < 0 then .int .u8 (z i) else .int .u8 0) (fun i j _ hj => by (have h0 : j = 0 := by omega); subst h0; simp))
    have B0 := Lib.hid (show Below w.heap.size w (w.alloc (.cells (madeCells #[.int .u8 0] (n * 1)) 5)) from (Below.refl _ _).alloc (Nat.le_refl _) _)
    rw [Nat.mul_one] at T0 B0
    go_enter Tryd.func8, Tryd.ntmps8
    go_wp2
    generalize w.alloc (.cells (madeCells #[.int .u8 0] n) 5) = W0 at *
    clear hmk
    go_loopw [4] (fun i wr => ∃ k : Nat, k ≤ n ∧ i = .int .i64 k ∧ Hid (Tab wr w.heap.size 5 1 n (fun i _ => if i < k then .int .u8 (z i) else .int .u8 0)) ∧ Hid (Below w.heap.size w wr)) (fun i _ => n - (intOf i).toNat)
    case atStart => exact ⟨0, Nat.zero_le _, rfl, T0, B0⟩
    case round =>
      obtain ⟨k, hk, rfl, TT, BB⟩ := hrel
      clear T0 B0
      by_cases hlt : k < n
      · obtain ⟨b, o, e, hb, hc⟩ := R.out (by omega)
        obtain rfl : x = ⟨b, o, none⟩ := by injection e
        clear e
        have z0 : wr.cell? ⟨b, o + k, none⟩ = some (.int .u8 (z k)) := by rw [BB.out.cell hb]; exact hc k hlt
        have q1 : (0 : Int) ≤ (k : Int) := by omega
        have q2 : (k : Int) < (n : Int) := by omega
        have y0 := tab1 TT.out hlt
        simp only [Nat.lt_irrefl, if_false] at y0
        have u0 := TT.out.frozen k
        clear hc
        go_wp2
        go_roundw
        case rel => exact ⟨k + 1, by omega, by go_num, Lib.hid (one_step (F := fun i => .int .u8 (z i)) TT.out hlt), Lib.hid (BB.out.setCell (Nat.le_refl _) _)⟩
        case measure => simp [intOf]; omega
      · obtain rfl : k = n := by omega
        go_wp2
        go_ret
        exact ⟨_, _, rfl, fun h0 => ⟨w.heap.size, 0, rfl, TT.out.lt, fun i hi => by rw [Nat.zero_add, tab1 TT.out hi, if_pos hi]⟩, BB.out⟩
set_option maxRecDepth 100000 in
set_option maxHeartbeats 1000000 in
theorem clone9 (A : Option Addr) (n c : Nat) (z : Nat → ByteArray) (w : World) (r : SR w A n z) (hA : A = none → n = 0) (hn : n ≤ 1048576) :
    Calls Tryd.prog 9 #[.slice A n c] w (CloneS n z w) := by
  have eq1 := fun (w : World) (a : Option Addr) (n c n' c' : Nat) => Lib.run_eql_slice_nil (P := Tryd.prog) w 23 9 a n c n' c' Tryd.underlying23
  cases A with
  | none =>
    obtain rfl := hA rfl
    go_enter Tryd.func9, Tryd.ntmps9
    go_wp2
    go_ret
    exact ⟨none, 0, rfl, fun h => absurd h (by omega), Below.refl _ _⟩
  | some x =>
    obtain ⟨i0, hi, hz0, hz1, hz2⟩ := info_parts info9
    have hmk := fun (W : World) => run_make (P := Tryd.prog) W 23 9 i0 _ Tryd.underlying23 hi hz0 .i64 .i64 n n (by omega) (by omega) (by rw [hz2]; omega) (by omega)
    simp only [hz1, Int.toNat_natCast] at hmk
    have R := Lib.hid r
    clear r hA
    have T0 := Lib.hid (Tab.new w 9 #[.string ⟨#[]⟩] n 1 rfl (fun i _ => if i < 0 then .string (z i) else .string ⟨#[]⟩) (fun i j _ hj => by (have h0 : j = 0 := by omega); subst h0; simp))
    have B0 := Lib.hid (show Below w.heap.size w (w.alloc (.cells (madeCells #[.string ⟨#[]⟩] (n * 1)) 9)) from (Below.refl _ _).alloc (Nat.le_refl _) _)
    rw [Nat.mul_one] at T0 B0
    go_enter Tryd.func9, Tryd.ntmps9
    go_wp2
    generalize w.alloc (.cells (madeCells #[.string ⟨#[]⟩] n) 9) = W0 at *
    clear hmk
    go_loopw [4] (fun i wr => ∃ k : Nat, k ≤ n ∧ i = .int .i64 k ∧ Hid (Tab wr w.heap.size 9 1 n (fun i _ => if i < k then .string (z i) else .string ⟨#[]⟩)) ∧ Hid (Below w.heap.size w wr)) (fun i _ => n - (intOf i).toNat)
    case atStart => exact ⟨0, Nat.zero_le _, rfl, T0, B0⟩
    case round =>
      obtain ⟨k, hk, rfl, TT, BB⟩ := hrel
      clear T0 B0
      by_cases hlt : k < n
      · obtain ⟨b, o, e, hb, hc⟩ := R.out (by omega)
        obtain rfl : x = ⟨b, o, none⟩ := by injection e
        clear e
        have z0 : wr.cell? ⟨b, o + k, none⟩ = some (.string (z k)) := by rw [BB.out.cell hb]; exact hc k hlt
        have q1 : (0 : Int) ≤ (k : Int) := by omega
        have q2 : (k : Int) < (n : Int) := by omega
        have y0 := tab1 TT.out hlt
        simp only [Nat.lt_irrefl, if_false] at y0
        have u0 := TT.out.frozen k
        clear hc
        go_wp2
        go_roundw
        case rel => exact ⟨k + 1, by omega, by go_num, Lib.hid (one_step (F := fun i => .string (z i)) TT.out hlt), Lib.hid (BB.out.setCell (Nat.le_refl _) _)⟩
        case measure => simp [intOf]; omega
      · obtain rfl : k = n := by omega
        go_wp2
        go_ret
        exact ⟨_, _, rfl, fun h0 => ⟨w.heap.size, 0, rfl, TT.out.lt, fun i hi => by rw [Nat.zero_add, tab1 TT.out hi, if_pos hi]⟩, BB.out⟩
end Go.Proofs.YtbdmbknehfjoaaaDoor.ZT
