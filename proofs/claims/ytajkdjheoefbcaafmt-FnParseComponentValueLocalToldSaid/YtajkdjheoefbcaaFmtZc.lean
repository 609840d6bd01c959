/- Copies of byte slices; the texts and kinds of the classes. -/
import Derived.Test.YtajkdjheoefbcaaFmtZb
namespace Go.Proofs.YtajkdjheoefbcaaFmt.ZA
open Go.RowKit Go.Proofs.YtajkdjheoefbcaaFmt.TB Go.Proofs.YtajkdjheoefbcaaFmt.OW Go.Proofs.YtajkdjheoefbcaaFmt.PL
set_option linter.unusedVariables false
theorem info5 : (Tryf.prog.info? 5).map (fun i => (i.zero, i.size, i.bytes)) = some (some (.int .u8 0), 1, 1) := by kernel_rfl
/-- A block of bytes: those below k are z's, the others 0. -/
def bz (z : Nat → Int) (k : Nat) : Nat → Nat → Value := fun i _ => .int .u8 (if i < k then z i else 0)
theorem bz_step {w : World} {g n k : Nat} {z : Nat → Int} (h : Tab w g 5 1 n (bz z k)) (hk : k < n) : Tab (w.setCell ⟨g, k, none⟩ (.int .u8 (z k))) g 5 1 n (bz z (k + 1)) := by
  have h1 := h.set hk (j := 0) (by omega) (.int .u8 (z k))
  rw [Nat.mul_one, Nat.add_zero] at h1
  refine h1.ext fun i j hi hj => ?_
  obtain rfl : j = 0 := by omega
  unfold upd bz
  by_cases e : i = k
  · subst e; simp
  · rw [if_neg (by rintro ⟨h, -⟩; exact e h)]
    by_cases h2 : i < k
    · rw [if_pos h2, if_pos (by omega)]
    · rw [if_neg h2, if_neg (by omega)]
theorem tab1 {w : World} {g t n : Nat} {f : Nat → Nat → Value} (h : Tab w g t 1 n f) {i : Nat} (hi : i < n) : w.cell? ⟨g, i, none⟩ = some (f i 0) := by
  have := h.cell hi (j := 0) (by omega)
  rwa [Nat.mul_one, Nat.add_zero] at this
theorem BR.of_tab {w : World} {g n : Nat} {z : Nat → Int} (h : Tab w g 5 1 n (bz z n)) : BR w (some ⟨g, 0, none⟩) n z := by
  intro hn
  refine ⟨g, 0, rfl, h.lt, fun i hi => ?_⟩
  rw [Nat.zero_add, tab1 h hi]
  unfold bz; rw [if_pos hi]
def CloneP (n : Nat) (z : Nat → Int) (w : World) (e : Ending) (w' : World) : Prop :=
  ∃ A' c', e = .returned (.slice A' n c') ∧ n ≤ c' ∧ c' ≤ 2097152 ∧ BR w' A' n z ∧ Below w.heap.size w w'
set_option maxRecDepth 100000 in
set_option maxHeartbeats 1000000 in
theorem clone (A : Option Addr) (n c : Nat) (z : Nat → Int) (w : World) (r : BR w A n z) (hA : A = none → n = 0) (hn : n ≤ 1048576) :
    Calls Tryf.prog 6 #[.slice A n c] w (CloneP n z w) := by
  have eq1 := fun (w : World) (a : Option Addr) (n c n' c' : Nat) => Lib.run_eql_slice_nil (P := Tryf.prog) w 22 5 a n c n' c' Tryf.underlying22
  cases A with
  | none =>
    obtain rfl := hA rfl
    go_enter Tryf.func6, Tryf.ntmps6
    go_wp2
    go_ret
    exact ⟨none, 0, rfl, Nat.le_refl _, by omega, fun h => absurd h (by omega), Below.refl _ _⟩
  | some x =>
    obtain ⟨i0, hi, hz0, hz1, hz2⟩ := info_parts info5
    have hmk := fun (W : World) => run_make (P := Tryf.prog) W 22 5 i0 _ Tryf.underlying22 hi hz0 .i64 .i64 n n (by omega) (by omega) (by rw [hz2]; omega) (by omega)
    simp only [hz1, Int.toNat_natCast] at hmk
    have R := Lib.hid r
    clear r hA
    have T0 := Lib.hid (Tab.new w 5 #[.int .u8 0] n 1 rfl (bz z 0) (fun i j _ hj => by (have h0 : j = 0 := by omega); subst h0; unfold bz; simp))
    have B0 := Lib.hid (show Below w.heap.size w (w.alloc (.cells (madeCells #[.int .u8 0] (n * 1)) 5)) from (Below.refl _ _).alloc (Nat.le_refl _) _)
    rw [Nat.mul_one] at T0 B0
    go_enter Tryf.func6, Tryf.ntmps6
    go_wp2
    generalize w.alloc (.cells (madeCells #[.int .u8 0] n) 5) = W0 at *
    clear hmk
    go_loopw [4] (fun i wr => ∃ k : Nat, k ≤ n ∧ i = .int .i64 k ∧ Hid (Tab wr w.heap.size 5 1 n (bz z k)) ∧ Hid (Below w.heap.size w wr)) (fun i _ => n - (intOf i).toNat)
    case atStart => exact ⟨0, Nat.zero_le _, rfl, T0, B0⟩
    case round =>
      obtain ⟨k, hk, rfl, TT, BB⟩ := hrel
      clear T0 B0
      by_cases hlt : k < n
      · obtain ⟨b, o, e, hb, hc⟩ := R.out (by omega)
        obtain rfl : x = ⟨b, o, none⟩ := by injection e
        clear e
        have z0 : wr.cell? ⟨b, o + k, none⟩ = some (.int .u8 (z k)) := by rw [BB.out.cell hb]; exact hc k hlt
        have q1 : (0 : Int) ≤ (k : Int) := by omega
        have q2 : (k : Int) < (n : Int) := by omega
        have y0 := tab1 TT.out hlt
        have u0 := TT.out.frozen k
        clear hc
        go_wp2
        go_roundw
        case rel => exact ⟨k + 1, by omega, by go_num, Lib.hid (bz_step TT.out hlt), Lib.hid (BB.out.setCell (Nat.le_refl _) _)⟩
        case measure => simp [intOf]; omega
      · obtain rfl : k = n := by omega
        go_wp2
        go_ret
        exact ⟨_, _, rfl, Nat.le_refl _, by omega, BR.of_tab TT.out, BB.out⟩
/-- Two rows, one behind the other. -/
def cat (z1 z2 : Nat → Int) (n : Nat) : Nat → Int := fun i => if i < n then z1 i else z2 (i - n)
set_option maxRecDepth 100000 in
set_option maxHeartbeats 1000000 in
theorem catW (A B : Option Addr) (n m c d : Nat) (z1 z2 : Nat → Int) (w : World) (r : BR w A n z1) (r2 : BR w B m z2) (hn : n ≤ 1048576) (hm : m ≤ 1048576) :
    Calls Tryf.prog 15 #[.slice A n c, .slice B m d] w (CloneP (n + m) (cat z1 z2 n) w) := by
  obtain ⟨i0, hi, hz0, hz1, hz2⟩ := info_parts info5
  have hmk := fun (W : World) => run_make (P := Tryf.prog) W 22 5 i0 _ Tryf.underlying22 hi hz0 .i64 .i64 ((n + m : Nat) : Int) ((n + m : Nat) : Int) (by omega) (by omega) (by rw [hz2]; omega) (by omega)
  simp only [hz1, Int.toNat_natCast] at hmk
  have R := Lib.hid r
  have R2 := Lib.hid r2
  clear r r2
  have T0 := Lib.hid (Tab.new w 5 #[.int .u8 0] (n + m) 1 rfl (bz (cat z1 z2 n) 0) (fun i j _ hj => by (have h0 : j = 0 := by omega); subst h0; unfold bz; simp))
  have B0 := Lib.hid (show Below w.heap.size w (w.alloc (.cells (madeCells #[.int .u8 0] ((n + m) * 1)) 5)) from (Below.refl _ _).alloc (Nat.le_refl _) _)
  rw [Nat.mul_one] at T0 B0
  have en : ((n + m : Nat) : Int) = (n : Int) + (m : Int) := by omega
  rw [en] at hmk
  go_enter Tryf.func15, Tryf.ntmps15
  go_wp2
  generalize w.alloc (.cells (madeCells #[.int .u8 0] (n + m)) 5) = W0 at *
  clear hmk en
  go_loopw [6] (fun i wr => ∃ k : Nat, k ≤ n ∧ i = .int .i64 k ∧ Hid (Tab wr w.heap.size 5 1 (n + m) (bz (cat z1 z2 n) k)) ∧ Hid (Below w.heap.size w wr)) (fun i _ => n - (intOf i).toNat)
  case atStart => exact ⟨0, Nat.zero_le _, rfl, T0, B0⟩
  case round =>
    obtain ⟨k, hk, rfl, TT, BB⟩ := hrel
    clear T0 B0
    by_cases hlt : k < n
    · obtain ⟨b, o, rfl, hb, hc⟩ := R.out (by omega)
      have z0 : wr.cell? ⟨b, o + k, none⟩ = some (.int .u8 (z1 k)) := by rw [BB.out.cell hb]; exact hc k hlt
      have q1 : (0 : Int) ≤ (k : Int) := by omega
      have q2 : (k : Int) < (n : Int) := by omega
      have q3 : (k : Int) < (n : Int) + (m : Int) := by omega
      have y0 := tab1 TT.out (i := k) (by omega)
      have u0 := TT.out.frozen k
      have ez : z1 k = cat z1 z2 n k := by unfold cat; rw [if_pos hlt]
      have TT2 := Lib.hid (bz_step TT.out (k := k) (by omega))
      rw [← ez] at TT2
      clear hc ez
      go_wp2
      go_roundw
      case rel => exact ⟨k + 1, by omega, by go_num, TT2, Lib.hid (BB.out.setCell (Nat.le_refl _) _)⟩
      case measure => simp [intOf]; omega
    · obtain rfl : k = n := by omega
      go_wp2
      go_loopw [7] (fun i wr => ∃ j : Nat, j ≤ m ∧ i = .int .i64 j ∧ Hid (Tab wr w.heap.size 5 1 (k + m) (bz (cat z1 z2 k) (k + j))) ∧ Hid (Below w.heap.size w wr)) (fun i _ => m - (intOf i).toNat)
      case atStart => exact ⟨0, Nat.zero_le _, rfl, TT, BB⟩
      case round =>
        obtain ⟨j, hj, rfl, TJ, BJ⟩ := hrel
        by_cases hjm : j < m
        · obtain ⟨b, o, rfl, hb, hc⟩ := R2.out (by omega)
          have z0 : wr.cell? ⟨b, o + j, none⟩ = some (.int .u8 (z2 j)) := by rw [BJ.out.cell hb]; exact hc j hjm
          have q1 : (0 : Int) ≤ (j : Int) := by omega
          have q2 : (j : Int) < (m : Int) := by omega
          have q3 : (k : Int) + (j : Int) < (k : Int) + (m : Int) := by omega
          have q4 : (0 : Int) ≤ (k : Int) + (j : Int) := by omega
          have q5 : ((k : Int) + (j : Int)).toNat = k + j := by omega
          have y0 := tab1 TJ.out (i := k + j) (by omega)
          have u0 := TJ.out.frozen (k + j)
          have ez : z2 j = cat z1 z2 k (k + j) := by unfold cat; rw [if_neg (by omega)]; congr 1; omega
          have TT2 := Lib.hid (bz_step TJ.out (k := k + j) (by omega))
          rw [← ez] at TT2
          clear hc ez
          go_wp2
          go_roundw
          case rel => exact ⟨j + 1, by omega, by go_num, TT2, Lib.hid (BJ.out.setCell (Nat.le_refl _) _)⟩
          case measure => simp [intOf]; omega
        · obtain rfl : j = m := by omega
          go_wp2
          go_ret
          exact ⟨_, _, rfl, Nat.le_refl _, by omega, BR.of_tab TJ.out, BJ.out⟩
end Go.Proofs.YtajkdjheoefbcaaFmt.ZA
