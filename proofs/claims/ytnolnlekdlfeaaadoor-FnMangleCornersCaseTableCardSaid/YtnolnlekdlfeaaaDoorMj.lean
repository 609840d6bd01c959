/- FnMangleCornersCaseTable: zzMinLoc. -/
import Derived.Test.YtnolnlekdlfeaaaDoorMi
namespace Go.Proofs.YtnolnlekdlfeaaaDoor.ZT
open Go.RowKit Go.Proofs.YtnolnlekdlfeaaaDoor.TB
set_option linter.unusedVariables false
def mloc (l : Int) (k : Nat) : Int := if k = 0 then 0 else if k = 1 then l else if 0 < l then 0 else l
set_option maxRecDepth 100000 in
set_option maxHeartbeats 4000000 in
theorem minloc12 (lb : Nat) (l : Int) (w : World) (hl : w.cell? ⟨lb, 0, none⟩ = some (.int .i32 l)) : Calls Tryd.prog 12 #[.agg #[.int .i64 0, .int .i64 0, .int .i64 0, .int .i64 0], .slice (some ⟨lb, 0, none⟩) 1 1] w fun e w' => e = .returned (.int .i32 (mloc l 4)) ∧ Below w.heap.size w w' := by
  have hlb := World.block_lt_of_cell? w _ hl
  have K0 := Lib.hid (Blk.new w 56 #[.int .i64 0, .int .i64 0, .int .i64 0, .int .i64 0])
  have B0 := Lib.hid (show Below w.heap.size w (w.alloc (.cells #[.int .i64 0, .int .i64 0, .int .i64 0, .int .i64 0] 56)) from (Below.refl _ _).alloc (Nat.le_refl _) _)
  have L0 := Lib.hid (show (w.alloc (.cells #[.int .i64 0, .int .i64 0, .int .i64 0, .int .i64 0] 56)).cell? ⟨lb, 0, none⟩ = some (.int .i32 l) from by rw [B0.out.cell hlb]; exact hl)
  clear hl
  go_enter Tryd.func12, Tryd.ntmps12
  go_wp2_with fail
  generalize w.alloc (.cells #[.int .i64 0, .int .i64 0, .int .i64 0, .int .i64 0] 56) = W0 at *
  obtain ⟨ab, hab⟩ : ∃ ab, w.heap.size = ab := ⟨_, rfl⟩
  rw [hab] at K0
  simp only [hab]
  have HAB := Lib.hid hab
  clear hab
  go_loopw [5, 6] (fun mm i wr => ∃ k : Nat, k ≤ 4 ∧ i = .int .i64 k ∧ mm = .int .i32 (mloc l k) ∧ Hid (Below W0.heap.size W0 wr)) (fun _ i _ => 4 - (intOf i).toNat)
  case atStart => exact ⟨0, by omega, rfl, rfl, Lib.hid (Below.refl _ _)⟩
  case round =>
    obtain ⟨k, hk, rfl, rfl, BB⟩ := hrel
    by_cases hlt : k < 4
    · have p1 : (k : Int) < 4 := by omega
      have p0 : (0 : Int) ≤ (k : Int) := by omega
      go_wp2_with fail
      obtain ⟨W1, rfl⟩ : ∃ W1 : World, W1 = wr := ⟨_, rfl⟩
      go_loopw [8, 9] (fun s i wr => ∃ j : Nat, j ≤ k ∧ i = .int .i64 j ∧ s = .bool (decide (0 < j)) ∧ Hid (Below W0.heap.size W0 wr)) (fun _ i _ => k - (intOf i).toNat)
      case atStart => exact ⟨0, by omega, rfl, rfl, BB⟩
      case round =>
        clear BB
        obtain ⟨j, hj, rfl, rfl, BB⟩ := hrel
        have KB := Lib.hid (K0.out.below BB.out K0.out.lt)
        have at4 := Lib.hid (show ∀ i, i < 4 → wr.cell? ⟨ab, i, none⟩ = some (.int .i64 0) from fun i hi => by
          rcases (by omega : i = 0 ∨ i = 1 ∨ i = 2 ∨ i = 3) with rfl | rfl | rfl | rfl
          · exact KB.out.cell 0
          · exact KB.out.cell 1
          · exact KB.out.cell 2
          · exact KB.out.cell 3)
        by_cases hjk : j < k
        · have r0 : (0 : Int) ≤ (j : Int) := by omega
          have r1 : (j : Int) < (k : Int) := by omega
          have r2 : (j : Int) < 4 := by omega
          have cj := at4.out j (by omega)
          have ck := at4.out k hlt
          go_wp2_with fail
          go_quiet (fail)
          have B2 := Lib.hid (show ∀ n, Below W0.heap.size W0 (wr.drewN n) from fun n => BB.out.trans ⟨rfl, rfl, rfl, Nat.le_refl _, fun _ _ => rfl⟩)
          go_wp2_with fail
          go_roundw
          case rel => exact ⟨j + 1, by omega, by go_num, by simp, Lib.hid (B2.out _)⟩
          case measure => simp [intOf]; omega
        · obtain rfl : k = j := by omega
          have lc : wr.cell? ⟨lb, 0, none⟩ = some (.int .i32 l) := by rw [BB.out.cell (World.block_lt_of_cell? W0 _ L0.out)]; exact L0.out
          have ck := at4.out k hlt
          by_cases hl0 : 0 < l
          all_goals
            rcases (by omega : k = 0 ∨ k = 1 ∨ k = 2 ∨ k = 3) with h | h | h | h
          · subst h
            rw [show mloc l 0 = 0 from rfl, show ((0 : Nat) : Int) = 0 from rfl]
            go_wp2_with fail
            go_roundw
            case rel => exact ⟨0 + 1, by omega, by go_num, by rw [show mloc l (0 + 1) = l from rfl], BB⟩
            case measure => simp [intOf]
          · subst h
            rw [show mloc l 1 = l from rfl, show ((1 : Nat) : Int) = 1 from rfl]
            go_wp2_with fail
            go_roundw
            case rel => exact ⟨1 + 1, by omega, by go_num, by rw [show mloc l (1 + 1) = 0 from if_pos hl0], BB⟩
            case measure => simp [intOf]
          · subst h
            rw [show mloc l 2 = 0 from if_pos hl0, show ((2 : Nat) : Int) = 2 from rfl]
            go_wp2_with fail
            go_roundw
            case rel => exact ⟨2 + 1, by omega, by go_num, by rw [show mloc l (2 + 1) = 0 from if_pos hl0], BB⟩
            case measure => simp [intOf]
          · subst h
            rw [show mloc l 3 = 0 from if_pos hl0, show ((3 : Nat) : Int) = 3 from rfl]
            go_wp2_with fail
            go_roundw
            case rel => exact ⟨3 + 1, by omega, by go_num, by rw [show mloc l (3 + 1) = 0 from if_pos hl0], BB⟩
            case measure => simp [intOf]
          · subst h
            rw [show mloc l 0 = 0 from rfl, show ((0 : Nat) : Int) = 0 from rfl]
            go_wp2_with fail
            go_roundw
            case rel => exact ⟨0 + 1, by omega, by go_num, by rw [show mloc l (0 + 1) = l from rfl], BB⟩
            case measure => simp [intOf]
          · subst h
            rw [show mloc l 1 = l from rfl, show ((1 : Nat) : Int) = 1 from rfl]
            go_wp2_with fail
            go_roundw
            case rel => exact ⟨1 + 1, by omega, by go_num, by rw [show mloc l (1 + 1) = l from if_neg hl0], BB⟩
            case measure => simp [intOf]
          · subst h
            rw [show mloc l 2 = l from if_neg hl0, show ((2 : Nat) : Int) = 2 from rfl]
            go_wp2_with fail
            go_roundw
            case rel => exact ⟨2 + 1, by omega, by go_num, by rw [show mloc l (2 + 1) = l from if_neg hl0], BB⟩
            case measure => simp [intOf]
          · subst h
            rw [show mloc l 3 = l from if_neg hl0, show ((3 : Nat) : Int) = 3 from rfl]
            go_wp2_with fail
            go_roundw
            case rel => exact ⟨3 + 1, by omega, by go_num, by rw [show mloc l (3 + 1) = l from if_neg hl0], BB⟩
            case measure => simp [intOf]
    · obtain rfl : k = 4 := by omega
      go_wp2_with fail
      go_ret
      exact ⟨by simp, B0.out.trans (BB.out.mono B0.out.size)⟩
end Go.Proofs.YtnolnlekdlfeaaaDoor.ZT
